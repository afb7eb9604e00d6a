import JvmDerived
import JvmDerived.Pilot.@@N@@Statement
import JvmDerived.Pilot.@@N@@Code
set_option linter.unusedVariables false
set_option linter.unusedSimpArgs false
namespace Jvm.RoadKit
open Sem ClassFile Op Lib Jvm.Stand Jvm.Free Jvm.LawKit
section New
variable {p : Program} {l : Launch} {e : Env} {R : Room} {s : State} {m : MethodId} {args : Array Value} {below : List Frame} {meth : Method} {c : Code} {T : State} {locs : List Loc} {cells slots : Nat}
theorem retI (X : Stand p l e R s m args below meth c T locs cells slots) (hx : p.tables.exec = Jvm.exec) {pc : Nat} {Ls : Array Slot} {z : Int32} {rest : List Value} (hret : meth.sig.returnType = some .int) (hd : decode c.code pc = .ok (.ireturn, 1)) {fs : List Frame}
    (hl : ∀ (f : JFrame) (acts : List Action), f.method = m → f.locked = none → f.entered = [] → (doReturn e (T.setTop f) acts (some (.int z))).1 = T.setFrames fs) : Steps p.tables e below (T.setTop (mkF m pc Ls (.int z :: rest))) (T.setFrames fs) := by
  have hm' : T.vm.method? m = some meth := X.method'
  have hn : narrow .int (.int z) = .int z := rfl
  show Steps p.tables e below (T.setTop { method := m, pc := pc, locals := Ls, stack := _ :: rest, locked := none }) _
  jvm_step X.here [X.here.top, hx, hd, hm', hret, hn]
  first | (intro acts; rw [hl _ acts rfl rfl rfl]) | rw [hl _ _ rfl rfl rfl]
  exact Steps.refl _
theorem own_to {L' : List Loc} {k' n' : Nat} (X : Stand p l e R s m args below meth c T locs cells slots) (a : locs = L') (b : cells = k') (d : slots = n') : Stand p l e R s m args below meth c T L' k' n' := by
  subst a b d
  exact X
end New
end Jvm.RoadKit
namespace Jvm.Pilot.@@N@@
open Jvm Jvm.ClassFile Sem Op Lib Jvm.Free Jvm.Stand Jvm.LawKit Jvm.RoadKit Bundle Jvm.Pilot.@@N@@.Jvm.D
theorem ef_rm_max (m : MethodId) (x0 : Int64) (x1 : Int64) : entryFrame m #[(.long x0), (.long x1)] 4 = mkF m 0 #[.val (.long x0), .second, .val (.long x1), .second] [] := by first | (simp [entryFrame, mkF, argsToLocals, Value.category]; done) | rfl
theorem d_jdk_29_method_66_0 : decode jdk_29_method_66_code 0 = .ok (.lload_n 0, 1) := by decide +kernel
theorem d_jdk_29_method_66_1 : decode jdk_29_method_66_code 1 = .ok (.lload_n 2, 1) := by decide +kernel
theorem d_jdk_29_method_66_2 : decode jdk_29_method_66_code 2 = .ok (.lcmp, 1) := by decide +kernel
theorem d_jdk_29_method_66_3 : decode jdk_29_method_66_code 3 = .ok (.ifCond .lt 7, 3) := by decide +kernel
theorem d_jdk_29_method_66_10 : decode jdk_29_method_66_code 10 = .ok (.lload_n 2, 1) := by decide +kernel
theorem d_jdk_29_method_66_11 : decode jdk_29_method_66_code 11 = .ok (.lreturn, 1) := by decide +kernel
theorem d_jdk_29_method_66_6 : decode jdk_29_method_66_code 6 = .ok (.lload_n 0, 1) := by decide +kernel
theorem d_jdk_29_method_66_7 : decode jdk_29_method_66_code 7 = .ok (.goto 4, 3) := by decide +kernel
theorem ef_rs_N_0_0 (m : MethodId) (x0 : Addr) (x1 : Int32) (x2 : Addr) (x3 : Addr) (x4 : Int64) (x5 : Int64) (x6 : Int32) (x7 : Int32) : entryFrame m #[(.ref x0), (.int x1), (.ref x2), (.ref x3), (.long x4), (.long x5), (.int x6), (.int x7)] 10 = mkF m 0 #[.val (.ref x0), .val (.int x1), .val (.ref x2), .val (.ref x3), .val (.long x4), .second, .val (.long x5), .second, .val (.int x6), .val (.int x7)] [] := by first | (simp [entryFrame, mkF, argsToLocals, Value.category]; done) | rfl
theorem d_method_3_0 : decode method_3_code 0 = .ok (.iload_n 1, 1) := by decide +kernel
theorem d_method_3_1 : decode method_3_code 1 = .ok (.ifCond .ne 23, 3) := by decide +kernel
theorem d_method_3_4 : decode method_3_code 4 = .ok (.aload_n 0, 1) := by decide +kernel
theorem d_method_3_5 : decode method_3_code 5 = .ok (.aload_n 2, 1) := by decide +kernel
theorem ef_rc1_name (m : MethodId) (x0 : Addr) (x1 : Addr) : entryFrame m #[(.ref x0), (.ref x1)] 5 = mkF m 0 #[.val (.ref x0), .val (.ref x1), .unset, .unset, .unset] [] := by first | (simp [entryFrame, mkF, argsToLocals, Value.category]; done) | rfl
theorem d_prog_22_method_11_0 : decode prog_22_method_11_code 0 = .ok (.aload_n 1, 1) := by decide +kernel
theorem ef_rc2_id (m : MethodId) (x0 : Addr) : entryFrame m #[(.ref x0)] 1 = mkF m 0 #[.val (.ref x0)] [] := by first | (simp [entryFrame, mkF, argsToLocals, Value.category]; done) | rfl
theorem d_prog_36_method_9_0 : decode prog_36_method_9_code 0 = .ok (.aload_n 0, 1) := by decide +kernel
theorem d_prog_36_method_9_1 : decode prog_36_method_9_code 1 = .ok (.getfield 21, 3) := by decide +kernel
theorem d_prog_36_method_9_4 : decode prog_36_method_9_code 4 = .ok (.areturn, 1) := by decide +kernel
theorem pn_0 : plainName "com/example/causal_delivery/causaldelivery/Predecessor" = true := by first | (simp [plainName, overriddenIn]; done) | decide +kernel
theorem pd_0 : parseMethodDescriptor "()Lcom/example/causal_delivery/causaldelivery/MessageId;" = some ⟨[], some (.object "com/example/causal_delivery/causaldelivery/MessageId")⟩ := by decide +kernel
theorem d_prog_22_method_11_1 : decode prog_22_method_11_code 1 = .ok (.invokevirtual 55, 3) := by decide +kernel
theorem ef_rc3_seq (m : MethodId) (x0 : Addr) : entryFrame m #[(.ref x0)] 1 = mkF m 0 #[.val (.ref x0)] [] := by first | (simp [entryFrame, mkF, argsToLocals, Value.category]; done) | rfl
theorem d_prog_29_method_8_0 : decode prog_29_method_8_code 0 = .ok (.aload_n 0, 1) := by decide +kernel
theorem d_prog_29_method_8_1 : decode prog_29_method_8_code 1 = .ok (.getfield 37, 3) := by decide +kernel
theorem d_prog_29_method_8_4 : decode prog_29_method_8_code 4 = .ok (.lreturn, 1) := by decide +kernel
theorem pn_1 : plainName "com/example/causal_delivery/causaldelivery/MessageId" = true := by first | (simp [plainName, overriddenIn]; done) | decide +kernel
theorem pd_1 : parseMethodDescriptor "()J" = some ⟨[], some .long⟩ := by decide +kernel
theorem d_prog_22_method_11_4 : decode prog_22_method_11_code 4 = .ok (.invokevirtual 61, 3) := by decide +kernel
theorem d_prog_22_method_11_7 : decode prog_22_method_11_code 7 = .ok (.lstore_n 2, 1) := by decide +kernel
theorem d_prog_22_method_11_8 : decode prog_22_method_11_code 8 = .ok (.aload_n 0, 1) := by decide +kernel
theorem d_prog_22_method_11_9 : decode prog_22_method_11_code 9 = .ok (.getfield 98, 3) := by decide +kernel
theorem d_prog_22_method_11_12 : decode prog_22_method_11_code 12 = .ok (.ifnull 12, 3) := by decide +kernel
theorem d_prog_22_method_11_24 : decode prog_22_method_11_code 24 = .ok (.aload_n 0, 1) := by decide +kernel
theorem d_prog_22_method_11_25 : decode prog_22_method_11_code 25 = .ok (.getfield 98, 3) := by decide +kernel
theorem d_prog_22_method_11_28 : decode prog_22_method_11_code 28 = .ok (.astore 4, 2) := by decide +kernel
theorem d_prog_22_method_11_30 : decode prog_22_method_11_code 30 = .ok (.aload_n 0, 1) := by decide +kernel
theorem d_prog_22_method_11_31 : decode prog_22_method_11_code 31 = .ok (.aload_n 1, 1) := by decide +kernel
theorem d_prog_22_method_11_32 : decode prog_22_method_11_code 32 = .ok (.putfield 98, 3) := by decide +kernel
theorem d_prog_22_method_11_35 : decode prog_22_method_11_code 35 = .ok (.aload_n 0, 1) := by decide +kernel
theorem d_prog_22_method_11_36 : decode prog_22_method_11_code 36 = .ok (.lload_n 2, 1) := by decide +kernel
theorem d_prog_22_method_11_37 : decode prog_22_method_11_code 37 = .ok (.putfield 102, 3) := by decide +kernel
theorem d_prog_22_method_11_40 : decode prog_22_method_11_code 40 = .ok (.aload 4, 2) := by decide +kernel
theorem d_prog_22_method_11_42 : decode prog_22_method_11_code 42 = .ok (.areturn, 1) := by decide +kernel
theorem pn_2 : plainName "com/example/causal_delivery/causaldelivery/KnownOrigin" = true := by first | (simp [plainName, overriddenIn]; done) | decide +kernel
theorem pd_2 : parseMethodDescriptor "(Lcom/example/causal_delivery/causaldelivery/Predecessor;)Lcom/example/causal_delivery/causaldelivery/Predecessor;" = some ⟨[(.object "com/example/causal_delivery/causaldelivery/Predecessor")], some (.object "com/example/causal_delivery/causaldelivery/Predecessor")⟩ := by decide +kernel
theorem d_method_3_6 : decode method_3_code 6 = .ok (.invokevirtual 54, 3) := by decide +kernel
theorem d_method_3_9 : decode method_3_code 9 = .ok (.pop, 1) := by decide +kernel
theorem d_method_3_10 : decode method_3_code 10 = .ok (.iload 9, 2) := by decide +kernel
theorem d_method_3_12 : decode method_3_code 12 = .ok (.iload 8, 2) := by decide +kernel
theorem d_method_3_14 : decode method_3_code 14 = .ok (.ifCond .eq 7, 3) := by decide +kernel
theorem d_method_3_21 : decode method_3_code 21 = .ok (.iconst 1, 1) := by decide +kernel
theorem d_method_3_22 : decode method_3_code 22 = .ok (.ior, 1) := by decide +kernel
theorem d_method_3_23 : decode method_3_code 23 = .ok (.ireturn, 1) := by decide +kernel
theorem pn_3 : plainName "com/example/causal_delivery/causaldelivery/KnownOriginIsNamedPinLaw" = true := by first | (simp [plainName, overriddenIn]; done) | decide +kernel
theorem ef_rs_N_0_1 (m : MethodId) (x0 : Addr) (x1 : Int32) (x2 : Addr) (x3 : Addr) (x4 : Int64) (x5 : Int64) (x6 : Int32) (x7 : Int32) : entryFrame m #[(.ref x0), (.int x1), (.ref x2), (.ref x3), (.long x4), (.long x5), (.int x6), (.int x7)] 10 = mkF m 0 #[.val (.ref x0), .val (.int x1), .val (.ref x2), .val (.ref x3), .val (.long x4), .second, .val (.long x5), .second, .val (.int x6), .val (.int x7)] [] := by first | (simp [entryFrame, mkF, argsToLocals, Value.category]; done) | rfl
theorem d_method_3_24 : decode method_3_code 24 = .ok (.iload_n 1, 1) := by decide +kernel
theorem d_method_3_25 : decode method_3_code 25 = .ok (.iconst 1, 1) := by decide +kernel
theorem d_method_3_26 : decode method_3_code 26 = .ok (.if_icmp .ne 23, 3) := by decide +kernel
theorem d_method_3_29 : decode method_3_code 29 = .ok (.aload_n 0, 1) := by decide +kernel
theorem d_method_3_30 : decode method_3_code 30 = .ok (.aload_n 3, 1) := by decide +kernel
theorem d_method_3_31 : decode method_3_code 31 = .ok (.invokevirtual 54, 3) := by decide +kernel
theorem d_method_3_34 : decode method_3_code 34 = .ok (.pop, 1) := by decide +kernel
theorem d_method_3_35 : decode method_3_code 35 = .ok (.iload 9, 2) := by decide +kernel
theorem d_method_3_37 : decode method_3_code 37 = .ok (.iload 8, 2) := by decide +kernel
theorem d_method_3_39 : decode method_3_code 39 = .ok (.ifCond .eq 7, 3) := by decide +kernel
theorem d_method_3_46 : decode method_3_code 46 = .ok (.iconst 2, 1) := by decide +kernel
theorem d_method_3_47 : decode method_3_code 47 = .ok (.ior, 1) := by decide +kernel
theorem d_method_3_48 : decode method_3_code 48 = .ok (.ireturn, 1) := by decide +kernel
theorem ef_rs_N_0_2 (m : MethodId) (x0 : Addr) (x1 : Int32) (x2 : Addr) (x3 : Addr) (x4 : Int64) (x5 : Int64) (x6 : Int32) (x7 : Int32) : entryFrame m #[(.ref x0), (.int x1), (.ref x2), (.ref x3), (.long x4), (.long x5), (.int x6), (.int x7)] 10 = mkF m 0 #[.val (.ref x0), .val (.int x1), .val (.ref x2), .val (.ref x3), .val (.long x4), .second, .val (.long x5), .second, .val (.int x6), .val (.int x7)] [] := by first | (simp [entryFrame, mkF, argsToLocals, Value.category]; done) | rfl
theorem d_method_3_49 : decode method_3_code 49 = .ok (.iload_n 1, 1) := by decide +kernel
theorem d_method_3_50 : decode method_3_code 50 = .ok (.iconst 2, 1) := by decide +kernel
theorem d_method_3_51 : decode method_3_code 51 = .ok (.if_icmp .ne 24, 3) := by decide +kernel
theorem d_method_3_54 : decode method_3_code 54 = .ok (.aload_n 0, 1) := by decide +kernel
theorem d_method_3_55 : decode method_3_code 55 = .ok (.lload 4, 2) := by decide +kernel
theorem ef_rc4_unname (m : MethodId) (x0 : Addr) (x1 : Int64) : entryFrame m #[(.ref x0), (.long x1)] 5 = mkF m 0 #[.val (.ref x0), .val (.long x1), .second, .unset, .unset] [] := by first | (simp [entryFrame, mkF, argsToLocals, Value.category]; done) | rfl
theorem d_prog_22_method_12_0 : decode prog_22_method_12_code 0 = .ok (.aload_n 0, 1) := by decide +kernel
theorem d_prog_22_method_12_1 : decode prog_22_method_12_code 1 = .ok (.getfield 98, 3) := by decide +kernel
theorem d_prog_22_method_12_4 : decode prog_22_method_12_code 4 = .ok (.ifnonnull 5, 3) := by decide +kernel
theorem d_prog_22_method_12_7 : decode prog_22_method_12_code 7 = .ok (.aconst_null, 1) := by decide +kernel
theorem d_prog_22_method_12_8 : decode prog_22_method_12_code 8 = .ok (.areturn, 1) := by decide +kernel
theorem pd_3 : parseMethodDescriptor "(J)Lcom/example/causal_delivery/causaldelivery/Predecessor;" = some ⟨[.long], some (.object "com/example/causal_delivery/causaldelivery/Predecessor")⟩ := by decide +kernel
theorem d_method_3_57 : decode method_3_code 57 = .ok (.invokevirtual 58, 3) := by decide +kernel
theorem d_method_3_60 : decode method_3_code 60 = .ok (.pop, 1) := by decide +kernel
theorem d_method_3_61 : decode method_3_code 61 = .ok (.iload 9, 2) := by decide +kernel
theorem d_method_3_63 : decode method_3_code 63 = .ok (.iload 8, 2) := by decide +kernel
theorem d_method_3_65 : decode method_3_code 65 = .ok (.ifCond .eq 7, 3) := by decide +kernel
theorem d_method_3_72 : decode method_3_code 72 = .ok (.iconst 2, 1) := by decide +kernel
theorem d_method_3_73 : decode method_3_code 73 = .ok (.iand, 1) := by decide +kernel
theorem d_method_3_74 : decode method_3_code 74 = .ok (.ireturn, 1) := by decide +kernel
theorem ef_rs_N_0_3 (m : MethodId) (x0 : Addr) (x1 : Int32) (x2 : Addr) (x3 : Addr) (x4 : Int64) (x5 : Int64) (x6 : Int32) (x7 : Int32) : entryFrame m #[(.ref x0), (.int x1), (.ref x2), (.ref x3), (.long x4), (.long x5), (.int x6), (.int x7)] 10 = mkF m 0 #[.val (.ref x0), .val (.int x1), .val (.ref x2), .val (.ref x3), .val (.long x4), .second, .val (.long x5), .second, .val (.int x6), .val (.int x7)] [] := by first | (simp [entryFrame, mkF, argsToLocals, Value.category]; done) | rfl
theorem d_method_3_75 : decode method_3_code 75 = .ok (.aload_n 0, 1) := by decide +kernel
theorem d_method_3_76 : decode method_3_code 76 = .ok (.lload 6, 2) := by decide +kernel
theorem d_method_3_78 : decode method_3_code 78 = .ok (.invokevirtual 58, 3) := by decide +kernel
theorem d_method_3_81 : decode method_3_code 81 = .ok (.pop, 1) := by decide +kernel
theorem d_method_3_82 : decode method_3_code 82 = .ok (.iload 9, 2) := by decide +kernel
theorem d_method_3_84 : decode method_3_code 84 = .ok (.iload 8, 2) := by decide +kernel
theorem d_method_3_86 : decode method_3_code 86 = .ok (.ifCond .eq 7, 3) := by decide +kernel
theorem d_method_3_93 : decode method_3_code 93 = .ok (.iconst 1, 1) := by decide +kernel
theorem d_method_3_94 : decode method_3_code 94 = .ok (.iand, 1) := by decide +kernel
theorem d_method_3_95 : decode method_3_code 95 = .ok (.ireturn, 1) := by decide +kernel
theorem ef_rs_N_A_0 (m : MethodId) (x0 : Addr) (x1 : Int32) (x2 : Addr) (x3 : Addr) (x4 : Int64) (x5 : Int64) (x6 : Int32) (x7 : Int32) : entryFrame m #[(.ref x0), (.int x1), (.ref x2), (.ref x3), (.long x4), (.long x5), (.int x6), (.int x7)] 10 = mkF m 0 #[.val (.ref x0), .val (.int x1), .val (.ref x2), .val (.ref x3), .val (.long x4), .second, .val (.long x5), .second, .val (.int x6), .val (.int x7)] [] := by first | (simp [entryFrame, mkF, argsToLocals, Value.category]; done) | rfl
theorem ef_rc5_name (m : MethodId) (x0 : Addr) (x1 : Addr) : entryFrame m #[(.ref x0), (.ref x1)] 5 = mkF m 0 #[.val (.ref x0), .val (.ref x1), .unset, .unset, .unset] [] := by first | (simp [entryFrame, mkF, argsToLocals, Value.category]; done) | rfl
theorem d_prog_22_method_11_15 : decode prog_22_method_11_code 15 = .ok (.aload_n 0, 1) := by decide +kernel
theorem d_prog_22_method_11_16 : decode prog_22_method_11_code 16 = .ok (.getfield 102, 3) := by decide +kernel
theorem d_prog_22_method_11_19 : decode prog_22_method_11_code 19 = .ok (.lload_n 2, 1) := by decide +kernel
theorem d_prog_22_method_11_20 : decode prog_22_method_11_code 20 = .ok (.lcmp, 1) := by decide +kernel
theorem d_prog_22_method_11_21 : decode prog_22_method_11_code 21 = .ok (.ifCond .ne 22, 3) := by decide +kernel
theorem ef_rs_N_A_1 (m : MethodId) (x0 : Addr) (x1 : Int32) (x2 : Addr) (x3 : Addr) (x4 : Int64) (x5 : Int64) (x6 : Int32) (x7 : Int32) : entryFrame m #[(.ref x0), (.int x1), (.ref x2), (.ref x3), (.long x4), (.long x5), (.int x6), (.int x7)] 10 = mkF m 0 #[.val (.ref x0), .val (.int x1), .val (.ref x2), .val (.ref x3), .val (.long x4), .second, .val (.long x5), .second, .val (.int x6), .val (.int x7)] [] := by first | (simp [entryFrame, mkF, argsToLocals, Value.category]; done) | rfl
theorem ef_rc6_name (m : MethodId) (x0 : Addr) (x1 : Addr) : entryFrame m #[(.ref x0), (.ref x1)] 5 = mkF m 0 #[.val (.ref x0), .val (.ref x1), .unset, .unset, .unset] [] := by first | (simp [entryFrame, mkF, argsToLocals, Value.category]; done) | rfl
theorem d_prog_22_method_11_43 : decode prog_22_method_11_code 43 = .ok (.aload_n 0, 1) := by decide +kernel
theorem d_prog_22_method_11_44 : decode prog_22_method_11_code 44 = .ok (.getfield 105, 3) := by decide +kernel
theorem d_prog_22_method_11_47 : decode prog_22_method_11_code 47 = .ok (.ifnonnull 15, 3) := by decide +kernel
theorem d_prog_22_method_11_50 : decode prog_22_method_11_code 50 = .ok (.aload_n 0, 1) := by decide +kernel
theorem d_prog_22_method_11_51 : decode prog_22_method_11_code 51 = .ok (.new 123, 3) := by decide +kernel
theorem d_prog_22_method_11_54 : decode prog_22_method_11_code 54 = .ok (.dup, 1) := by decide +kernel
theorem d_prog_22_method_11_55 : decode prog_22_method_11_code 55 = .ok (.iconst 1, 1) := by decide +kernel
theorem ef_rc7_init (m : MethodId) (x0 : Addr) (x1 : Int32) : entryFrame m #[(.ref x0), (.int x1)] 2 = mkF m 0 #[.val (.ref x0), .val (.int x1)] [] := by first | (simp [entryFrame, mkF, argsToLocals, Value.category]; done) | rfl
theorem d_jdk_38_method_1_0 : decode jdk_38_method_1_code 0 = .ok (.aload_n 0, 1) := by decide +kernel
theorem ef_rc8_init (m : MethodId) (x0 : Addr) : entryFrame m #[(.ref x0)] 1 = mkF m 0 #[.val (.ref x0)] [] := by first | (simp [entryFrame, mkF, argsToLocals, Value.category]; done) | rfl
theorem d_jdk_39_method_1_0 : decode jdk_39_method_1_code 0 = .ok (.aload_n 0, 1) := by decide +kernel
theorem ef_rc9_init (m : MethodId) (x0 : Addr) : entryFrame m #[(.ref x0)] 1 = mkF m 0 #[.val (.ref x0)] [] := by first | (simp [entryFrame, mkF, argsToLocals, Value.category]; done) | rfl
theorem d_jdk_22_method_1_0 : decode jdk_22_method_1_code 0 = .ok (.aload_n 0, 1) := by decide +kernel
theorem d_jdk_22_method_1_1 : decode jdk_22_method_1_code 1 = .ok (.invokespecial 1, 3) := by decide +kernel
theorem d_jdk_22_method_1_4 : decode jdk_22_method_1_code 4 = .ok (.return_, 1) := by decide +kernel
theorem pn_4 : plainName "java/util/AbstractCollection" = true := by first | (simp [plainName, overriddenIn]; done) | decide +kernel
theorem pd_4 : parseMethodDescriptor "()V" = some ⟨[], none⟩ := by decide +kernel
theorem d_jdk_39_method_1_1 : decode jdk_39_method_1_code 1 = .ok (.invokespecial 1, 3) := by decide +kernel
theorem d_jdk_39_method_1_4 : decode jdk_39_method_1_code 4 = .ok (.aload_n 0, 1) := by decide +kernel
theorem d_jdk_39_method_1_5 : decode jdk_39_method_1_code 5 = .ok (.iconst 0, 1) := by decide +kernel
theorem d_jdk_39_method_1_6 : decode jdk_39_method_1_code 6 = .ok (.putfield 7, 3) := by decide +kernel
theorem d_jdk_39_method_1_9 : decode jdk_39_method_1_code 9 = .ok (.return_, 1) := by decide +kernel
theorem pn_5 : plainName "java/util/AbstractList" = true := by first | (simp [plainName, overriddenIn]; done) | decide +kernel
theorem d_jdk_38_method_1_1 : decode jdk_38_method_1_code 1 = .ok (.invokespecial 1, 3) := by decide +kernel
theorem d_jdk_38_method_1_4 : decode jdk_38_method_1_code 4 = .ok (.iload_n 1, 1) := by decide +kernel
theorem d_jdk_38_method_1_5 : decode jdk_38_method_1_code 5 = .ok (.ifCond .le 14, 3) := by decide +kernel
theorem d_jdk_38_method_1_8 : decode jdk_38_method_1_code 8 = .ok (.aload_n 0, 1) := by decide +kernel
theorem d_jdk_38_method_1_9 : decode jdk_38_method_1_code 9 = .ok (.iload_n 1, 1) := by decide +kernel
theorem d_jdk_38_method_1_10 : decode jdk_38_method_1_code 10 = .ok (.anewarray 7, 3) := by decide +kernel
theorem d_jdk_38_method_1_13 : decode jdk_38_method_1_code 13 = .ok (.putfield 9, 3) := by decide +kernel
theorem d_jdk_38_method_1_16 : decode jdk_38_method_1_code 16 = .ok (.goto 44, 3) := by decide +kernel
theorem d_jdk_38_method_1_60 : decode jdk_38_method_1_code 60 = .ok (.return_, 1) := by decide +kernel
theorem pn_6 : plainName "java/util/ArrayList" = true := by first | (simp [plainName, overriddenIn]; done) | decide +kernel
theorem pd_5 : parseMethodDescriptor "(I)V" = some ⟨[.int], none⟩ := by decide +kernel
theorem d_prog_22_method_11_56 : decode prog_22_method_11_code 56 = .ok (.invokespecial 125, 3) := by decide +kernel
theorem d_prog_22_method_11_59 : decode prog_22_method_11_code 59 = .ok (.putfield 105, 3) := by decide +kernel
theorem d_prog_22_method_11_62 : decode prog_22_method_11_code 62 = .ok (.iconst 0, 1) := by decide +kernel
theorem d_prog_22_method_11_63 : decode prog_22_method_11_code 63 = .ok (.istore 4, 2) := by decide +kernel
theorem d_prog_22_method_11_65 : decode prog_22_method_11_code 65 = .ok (.iload 4, 2) := by decide +kernel
theorem d_prog_22_method_11_67 : decode prog_22_method_11_code 67 = .ok (.aload_n 0, 1) := by decide +kernel
theorem d_prog_22_method_11_68 : decode prog_22_method_11_code 68 = .ok (.getfield 105, 3) := by decide +kernel
theorem ef_rc10_size (m : MethodId) (x0 : Addr) : entryFrame m #[(.ref x0)] 1 = mkF m 0 #[.val (.ref x0)] [] := by first | (simp [entryFrame, mkF, argsToLocals, Value.category]; done) | rfl
theorem d_jdk_38_method_8_0 : decode jdk_38_method_8_code 0 = .ok (.aload_n 0, 1) := by decide +kernel
theorem d_jdk_38_method_8_1 : decode jdk_38_method_8_code 1 = .ok (.getfield 48, 3) := by decide +kernel
theorem d_jdk_38_method_8_4 : decode jdk_38_method_8_code 4 = .ok (.ireturn, 1) := by decide +kernel
theorem pd_6 : parseMethodDescriptor "()I" = some ⟨[], some .int⟩ := by decide +kernel
theorem d_prog_22_method_11_71 : decode prog_22_method_11_code 71 = .ok (.invokeinterface 128 1, 5) := by decide +kernel
theorem d_prog_22_method_11_76 : decode prog_22_method_11_code 76 = .ok (.if_icmp .ge 50, 3) := by decide +kernel
theorem d_prog_22_method_11_126 : decode prog_22_method_11_code 126 = .ok (.aload_n 0, 1) := by decide +kernel
theorem d_prog_22_method_11_127 : decode prog_22_method_11_code 127 = .ok (.getfield 105, 3) := by decide +kernel
theorem d_prog_22_method_11_130 : decode prog_22_method_11_code 130 = .ok (.aload_n 1, 1) := by decide +kernel
theorem ef_rc11_add (m : MethodId) (x0 : Addr) (x1 : Addr) : entryFrame m #[(.ref x0), (.ref x1)] 2 = mkF m 0 #[.val (.ref x0), .val (.ref x1)] [] := by first | (simp [entryFrame, mkF, argsToLocals, Value.category]; done) | rfl
theorem d_jdk_38_method_25_0 : decode jdk_38_method_25_code 0 = .ok (.aload_n 0, 1) := by decide +kernel
theorem d_jdk_38_method_25_1 : decode jdk_38_method_25_code 1 = .ok (.dup, 1) := by decide +kernel
theorem d_jdk_38_method_25_2 : decode jdk_38_method_25_code 2 = .ok (.getfield 63, 3) := by decide +kernel
theorem d_jdk_38_method_25_5 : decode jdk_38_method_25_code 5 = .ok (.iconst 1, 1) := by decide +kernel
theorem d_jdk_38_method_25_6 : decode jdk_38_method_25_code 6 = .ok (.iadd, 1) := by decide +kernel
theorem d_jdk_38_method_25_7 : decode jdk_38_method_25_code 7 = .ok (.putfield 63, 3) := by decide +kernel
theorem d_jdk_38_method_25_10 : decode jdk_38_method_25_code 10 = .ok (.aload_n 0, 1) := by decide +kernel
theorem d_jdk_38_method_25_11 : decode jdk_38_method_25_code 11 = .ok (.aload_n 1, 1) := by decide +kernel
theorem d_jdk_38_method_25_12 : decode jdk_38_method_25_code 12 = .ok (.aload_n 0, 1) := by decide +kernel
theorem d_jdk_38_method_25_13 : decode jdk_38_method_25_code 13 = .ok (.getfield 9, 3) := by decide +kernel
theorem d_jdk_38_method_25_16 : decode jdk_38_method_25_code 16 = .ok (.aload_n 0, 1) := by decide +kernel
theorem d_jdk_38_method_25_17 : decode jdk_38_method_25_code 17 = .ok (.getfield 48, 3) := by decide +kernel
theorem ef_rc12_add (m : MethodId) (x0 : Addr) (x1 : Addr) (x2 : Addr) (x3 : Int32) : entryFrame m #[(.ref x0), (.ref x1), (.ref x2), (.int x3)] 4 = mkF m 0 #[.val (.ref x0), .val (.ref x1), .val (.ref x2), .val (.int x3)] [] := by first | (simp [entryFrame, mkF, argsToLocals, Value.category]; done) | rfl
theorem d_jdk_38_method_24_0 : decode jdk_38_method_24_code 0 = .ok (.iload_n 3, 1) := by decide +kernel
theorem d_jdk_38_method_24_1 : decode jdk_38_method_24_code 1 = .ok (.aload_n 2, 1) := by decide +kernel
theorem d_jdk_38_method_24_2 : decode jdk_38_method_24_code 2 = .ok (.arraylength, 1) := by decide +kernel
theorem d_jdk_38_method_24_3 : decode jdk_38_method_24_code 3 = .ok (.if_icmp .ne 8, 3) := by decide +kernel
theorem d_jdk_38_method_24_11 : decode jdk_38_method_24_code 11 = .ok (.aload_n 2, 1) := by decide +kernel
theorem d_jdk_38_method_24_12 : decode jdk_38_method_24_code 12 = .ok (.iload_n 3, 1) := by decide +kernel
theorem d_jdk_38_method_24_13 : decode jdk_38_method_24_code 13 = .ok (.aload_n 1, 1) := by decide +kernel
theorem d_jdk_38_method_24_14 : decode jdk_38_method_24_code 14 = .ok (.aastore, 1) := by decide +kernel
theorem d_jdk_38_method_24_15 : decode jdk_38_method_24_code 15 = .ok (.aload_n 0, 1) := by decide +kernel
theorem d_jdk_38_method_24_16 : decode jdk_38_method_24_code 16 = .ok (.iload_n 3, 1) := by decide +kernel
theorem d_jdk_38_method_24_17 : decode jdk_38_method_24_code 17 = .ok (.iconst 1, 1) := by decide +kernel
theorem d_jdk_38_method_24_18 : decode jdk_38_method_24_code 18 = .ok (.iadd, 1) := by decide +kernel
theorem d_jdk_38_method_24_19 : decode jdk_38_method_24_code 19 = .ok (.putfield 48, 3) := by decide +kernel
theorem d_jdk_38_method_24_22 : decode jdk_38_method_24_code 22 = .ok (.return_, 1) := by decide +kernel
theorem pd_7 : parseMethodDescriptor "(Ljava/lang/Object;[Ljava/lang/Object;I)V" = some ⟨[(.object "java/lang/Object"), (.array (.object "java/lang/Object")), .int], none⟩ := by decide +kernel
theorem d_jdk_38_method_25_20 : decode jdk_38_method_25_code 20 = .ok (.invokevirtual 131, 3) := by decide +kernel
theorem d_jdk_38_method_25_23 : decode jdk_38_method_25_code 23 = .ok (.iconst 1, 1) := by decide +kernel
theorem d_jdk_38_method_25_24 : decode jdk_38_method_25_code 24 = .ok (.ireturn, 1) := by decide +kernel
theorem pd_8 : parseMethodDescriptor "(Ljava/lang/Object;)Z" = some ⟨[(.object "java/lang/Object")], some .boolean⟩ := by decide +kernel
theorem d_prog_22_method_11_131 : decode prog_22_method_11_code 131 = .ok (.invokeinterface 140 2, 5) := by decide +kernel
theorem d_prog_22_method_11_136 : decode prog_22_method_11_code 136 = .ok (.pop, 1) := by decide +kernel
theorem d_prog_22_method_11_137 : decode prog_22_method_11_code 137 = .ok (.aconst_null, 1) := by decide +kernel
theorem d_prog_22_method_11_138 : decode prog_22_method_11_code 138 = .ok (.areturn, 1) := by decide +kernel
theorem ef_rs_N_A_2 (m : MethodId) (x0 : Addr) (x1 : Int32) (x2 : Addr) (x3 : Addr) (x4 : Int64) (x5 : Int64) (x6 : Int32) (x7 : Int32) : entryFrame m #[(.ref x0), (.int x1), (.ref x2), (.ref x3), (.long x4), (.long x5), (.int x6), (.int x7)] 10 = mkF m 0 #[.val (.ref x0), .val (.int x1), .val (.ref x2), .val (.ref x3), .val (.long x4), .second, .val (.long x5), .second, .val (.int x6), .val (.int x7)] [] := by first | (simp [entryFrame, mkF, argsToLocals, Value.category]; done) | rfl
theorem ef_rc13_unname (m : MethodId) (x0 : Addr) (x1 : Int64) : entryFrame m #[(.ref x0), (.long x1)] 5 = mkF m 0 #[.val (.ref x0), .val (.long x1), .second, .unset, .unset] [] := by first | (simp [entryFrame, mkF, argsToLocals, Value.category]; done) | rfl
theorem d_prog_22_method_12_9 : decode prog_22_method_12_code 9 = .ok (.aload_n 0, 1) := by decide +kernel
theorem d_prog_22_method_12_10 : decode prog_22_method_12_code 10 = .ok (.getfield 102, 3) := by decide +kernel
theorem d_prog_22_method_12_13 : decode prog_22_method_12_code 13 = .ok (.lload_n 1, 1) := by decide +kernel
theorem d_prog_22_method_12_14 : decode prog_22_method_12_code 14 = .ok (.lcmp, 1) := by decide +kernel
theorem d_prog_22_method_12_15 : decode prog_22_method_12_code 15 = .ok (.ifCond .ne 80, 3) := by decide +kernel
theorem d_prog_22_method_12_18 : decode prog_22_method_12_code 18 = .ok (.aload_n 0, 1) := by decide +kernel
theorem d_prog_22_method_12_19 : decode prog_22_method_12_code 19 = .ok (.getfield 98, 3) := by decide +kernel
theorem d_prog_22_method_12_22 : decode prog_22_method_12_code 22 = .ok (.astore_n 3, 1) := by decide +kernel
theorem d_prog_22_method_12_23 : decode prog_22_method_12_code 23 = .ok (.aload_n 0, 1) := by decide +kernel
theorem d_prog_22_method_12_24 : decode prog_22_method_12_code 24 = .ok (.aconst_null, 1) := by decide +kernel
theorem d_prog_22_method_12_25 : decode prog_22_method_12_code 25 = .ok (.putfield 98, 3) := by decide +kernel
theorem d_prog_22_method_12_28 : decode prog_22_method_12_code 28 = .ok (.aload_n 0, 1) := by decide +kernel
theorem d_prog_22_method_12_29 : decode prog_22_method_12_code 29 = .ok (.getfield 105, 3) := by decide +kernel
theorem d_prog_22_method_12_32 : decode prog_22_method_12_code 32 = .ok (.ifnull 61, 3) := by decide +kernel
theorem d_prog_22_method_12_93 : decode prog_22_method_12_code 93 = .ok (.aload_n 3, 1) := by decide +kernel
theorem d_prog_22_method_12_94 : decode prog_22_method_12_code 94 = .ok (.areturn, 1) := by decide +kernel
theorem ef_rs_N_A_3 (m : MethodId) (x0 : Addr) (x1 : Int32) (x2 : Addr) (x3 : Addr) (x4 : Int64) (x5 : Int64) (x6 : Int32) (x7 : Int32) : entryFrame m #[(.ref x0), (.int x1), (.ref x2), (.ref x3), (.long x4), (.long x5), (.int x6), (.int x7)] 10 = mkF m 0 #[.val (.ref x0), .val (.int x1), .val (.ref x2), .val (.ref x3), .val (.long x4), .second, .val (.long x5), .second, .val (.int x6), .val (.int x7)] [] := by first | (simp [entryFrame, mkF, argsToLocals, Value.category]; done) | rfl
theorem ef_rc14_unname (m : MethodId) (x0 : Addr) (x1 : Int64) : entryFrame m #[(.ref x0), (.long x1)] 5 = mkF m 0 #[.val (.ref x0), .val (.long x1), .second, .unset, .unset] [] := by first | (simp [entryFrame, mkF, argsToLocals, Value.category]; done) | rfl
theorem d_prog_22_method_12_95 : decode prog_22_method_12_code 95 = .ok (.aload_n 0, 1) := by decide +kernel
theorem d_prog_22_method_12_96 : decode prog_22_method_12_code 96 = .ok (.getfield 105, 3) := by decide +kernel
theorem d_prog_22_method_12_99 : decode prog_22_method_12_code 99 = .ok (.ifnull 83, 3) := by decide +kernel
theorem d_prog_22_method_12_182 : decode prog_22_method_12_code 182 = .ok (.aconst_null, 1) := by decide +kernel
theorem d_prog_22_method_12_183 : decode prog_22_method_12_code 183 = .ok (.areturn, 1) := by decide +kernel
theorem ef_rs_N_B_0 (m : MethodId) (x0 : Addr) (x1 : Int32) (x2 : Addr) (x3 : Addr) (x4 : Int64) (x5 : Int64) (x6 : Int32) (x7 : Int32) : entryFrame m #[(.ref x0), (.int x1), (.ref x2), (.ref x3), (.long x4), (.long x5), (.int x6), (.int x7)] 10 = mkF m 0 #[.val (.ref x0), .val (.int x1), .val (.ref x2), .val (.ref x3), .val (.long x4), .second, .val (.long x5), .second, .val (.int x6), .val (.int x7)] [] := by first | (simp [entryFrame, mkF, argsToLocals, Value.category]; done) | rfl
theorem ef_rc15_name (m : MethodId) (x0 : Addr) (x1 : Addr) : entryFrame m #[(.ref x0), (.ref x1)] 5 = mkF m 0 #[.val (.ref x0), .val (.ref x1), .unset, .unset, .unset] [] := by first | (simp [entryFrame, mkF, argsToLocals, Value.category]; done) | rfl
theorem ef_rs_N_B_1 (m : MethodId) (x0 : Addr) (x1 : Int32) (x2 : Addr) (x3 : Addr) (x4 : Int64) (x5 : Int64) (x6 : Int32) (x7 : Int32) : entryFrame m #[(.ref x0), (.int x1), (.ref x2), (.ref x3), (.long x4), (.long x5), (.int x6), (.int x7)] 10 = mkF m 0 #[.val (.ref x0), .val (.int x1), .val (.ref x2), .val (.ref x3), .val (.long x4), .second, .val (.long x5), .second, .val (.int x6), .val (.int x7)] [] := by first | (simp [entryFrame, mkF, argsToLocals, Value.category]; done) | rfl
theorem ef_rs_N_B_2 (m : MethodId) (x0 : Addr) (x1 : Int32) (x2 : Addr) (x3 : Addr) (x4 : Int64) (x5 : Int64) (x6 : Int32) (x7 : Int32) : entryFrame m #[(.ref x0), (.int x1), (.ref x2), (.ref x3), (.long x4), (.long x5), (.int x6), (.int x7)] 10 = mkF m 0 #[.val (.ref x0), .val (.int x1), .val (.ref x2), .val (.ref x3), .val (.long x4), .second, .val (.long x5), .second, .val (.int x6), .val (.int x7)] [] := by first | (simp [entryFrame, mkF, argsToLocals, Value.category]; done) | rfl
theorem ef_rs_N_B_3 (m : MethodId) (x0 : Addr) (x1 : Int32) (x2 : Addr) (x3 : Addr) (x4 : Int64) (x5 : Int64) (x6 : Int32) (x7 : Int32) : entryFrame m #[(.ref x0), (.int x1), (.ref x2), (.ref x3), (.long x4), (.long x5), (.int x6), (.int x7)] 10 = mkF m 0 #[.val (.ref x0), .val (.int x1), .val (.ref x2), .val (.ref x3), .val (.long x4), .second, .val (.long x5), .second, .val (.int x6), .val (.int x7)] [] := by first | (simp [entryFrame, mkF, argsToLocals, Value.category]; done) | rfl
theorem ef_rs_N_AB_0 (m : MethodId) (x0 : Addr) (x1 : Int32) (x2 : Addr) (x3 : Addr) (x4 : Int64) (x5 : Int64) (x6 : Int32) (x7 : Int32) : entryFrame m #[(.ref x0), (.int x1), (.ref x2), (.ref x3), (.long x4), (.long x5), (.int x6), (.int x7)] 10 = mkF m 0 #[.val (.ref x0), .val (.int x1), .val (.ref x2), .val (.ref x3), .val (.long x4), .second, .val (.long x5), .second, .val (.int x6), .val (.int x7)] [] := by first | (simp [entryFrame, mkF, argsToLocals, Value.category]; done) | rfl
theorem ef_rc16_name (m : MethodId) (x0 : Addr) (x1 : Addr) : entryFrame m #[(.ref x0), (.ref x1)] 5 = mkF m 0 #[.val (.ref x0), .val (.ref x1), .unset, .unset, .unset] [] := by first | (simp [entryFrame, mkF, argsToLocals, Value.category]; done) | rfl
theorem ef_rs_N_AB_1 (m : MethodId) (x0 : Addr) (x1 : Int32) (x2 : Addr) (x3 : Addr) (x4 : Int64) (x5 : Int64) (x6 : Int32) (x7 : Int32) : entryFrame m #[(.ref x0), (.int x1), (.ref x2), (.ref x3), (.long x4), (.long x5), (.int x6), (.int x7)] 10 = mkF m 0 #[.val (.ref x0), .val (.int x1), .val (.ref x2), .val (.ref x3), .val (.long x4), .second, .val (.long x5), .second, .val (.int x6), .val (.int x7)] [] := by first | (simp [entryFrame, mkF, argsToLocals, Value.category]; done) | rfl
theorem ef_rc17_name (m : MethodId) (x0 : Addr) (x1 : Addr) : entryFrame m #[(.ref x0), (.ref x1)] 5 = mkF m 0 #[.val (.ref x0), .val (.ref x1), .unset, .unset, .unset] [] := by first | (simp [entryFrame, mkF, argsToLocals, Value.category]; done) | rfl
theorem ef_rc18_size (m : MethodId) (x0 : Addr) : entryFrame m #[(.ref x0)] 1 = mkF m 0 #[.val (.ref x0)] [] := by first | (simp [entryFrame, mkF, argsToLocals, Value.category]; done) | rfl
theorem d_prog_22_method_11_79 : decode prog_22_method_11_code 79 = .ok (.aload_n 0, 1) := by decide +kernel
theorem d_prog_22_method_11_80 : decode prog_22_method_11_code 80 = .ok (.getfield 105, 3) := by decide +kernel
theorem d_prog_22_method_11_83 : decode prog_22_method_11_code 83 = .ok (.iload 4, 2) := by decide +kernel
theorem ef_rc19_get (m : MethodId) (x0 : Addr) (x1 : Int32) : entryFrame m #[(.ref x0), (.int x1)] 2 = mkF m 0 #[.val (.ref x0), .val (.int x1)] [] := by first | (simp [entryFrame, mkF, argsToLocals, Value.category]; done) | rfl
theorem d_jdk_38_method_20_0 : decode jdk_38_method_20_code 0 = .ok (.iload_n 1, 1) := by decide +kernel
theorem d_jdk_38_method_20_1 : decode jdk_38_method_20_code 1 = .ok (.aload_n 0, 1) := by decide +kernel
theorem d_jdk_38_method_20_2 : decode jdk_38_method_20_code 2 = .ok (.getfield 48, 3) := by decide +kernel
theorem ef_rc20_checkIndex (m : MethodId) (x0 : Int32) (x1 : Int32) : entryFrame m #[(.int x0), (.int x1)] 2 = mkF m 0 #[.val (.int x0), .val (.int x1)] [] := by first | (simp [entryFrame, mkF, argsToLocals, Value.category]; done) | rfl
theorem d_jdk_31_method_17_0 : decode jdk_31_method_17_code 0 = .ok (.iload_n 0, 1) := by decide +kernel
theorem d_jdk_31_method_17_1 : decode jdk_31_method_17_code 1 = .ok (.iload_n 1, 1) := by decide +kernel
theorem d_jdk_31_method_17_2 : decode jdk_31_method_17_code 2 = .ok (.aconst_null, 1) := by decide +kernel
theorem ef_rc21_checkIndex (m : MethodId) (x0 : Int32) (x1 : Int32) : entryFrame m #[(.int x0), (.int x1), .null] 3 = mkF m 0 #[.val (.int x0), .val (.int x1), .val .null] [] := by first | (simp [entryFrame, mkF, argsToLocals, Value.category]; done) | rfl
theorem d_jdk_41_method_11_0 : decode jdk_41_method_11_code 0 = .ok (.iload_n 0, 1) := by decide +kernel
theorem d_jdk_41_method_11_1 : decode jdk_41_method_11_code 1 = .ok (.ifCond .lt 8, 3) := by decide +kernel
theorem d_jdk_41_method_11_4 : decode jdk_41_method_11_code 4 = .ok (.iload_n 0, 1) := by decide +kernel
theorem d_jdk_41_method_11_5 : decode jdk_41_method_11_code 5 = .ok (.iload_n 1, 1) := by decide +kernel
theorem d_jdk_41_method_11_6 : decode jdk_41_method_11_code 6 = .ok (.if_icmp .lt 10, 3) := by decide +kernel
theorem d_jdk_41_method_11_16 : decode jdk_41_method_11_code 16 = .ok (.iload_n 0, 1) := by decide +kernel
theorem d_jdk_41_method_11_17 : decode jdk_41_method_11_code 17 = .ok (.ireturn, 1) := by decide +kernel
theorem pn_7 : plainName "jdk/internal/util/Preconditions" = true := by first | (simp [plainName, overriddenIn]; done) | decide +kernel
theorem pd_9 : parseMethodDescriptor "(IILjava/util/function/BiFunction;)I" = some ⟨[.int, .int, (.object "java/util/function/BiFunction")], some .int⟩ := by decide +kernel
theorem d_jdk_31_method_17_3 : decode jdk_31_method_17_code 3 = .ok (.invokestatic 105, 3) := by decide +kernel
theorem d_jdk_31_method_17_6 : decode jdk_31_method_17_code 6 = .ok (.ireturn, 1) := by decide +kernel
theorem pn_8 : plainName "java/util/Objects" = true := by first | (simp [plainName, overriddenIn]; done) | decide +kernel
theorem pd_10 : parseMethodDescriptor "(II)I" = some ⟨[.int, .int], some .int⟩ := by decide +kernel
theorem d_jdk_38_method_20_5 : decode jdk_38_method_20_code 5 = .ok (.invokestatic 118, 3) := by decide +kernel
theorem d_jdk_38_method_20_8 : decode jdk_38_method_20_code 8 = .ok (.pop, 1) := by decide +kernel
theorem d_jdk_38_method_20_9 : decode jdk_38_method_20_code 9 = .ok (.aload_n 0, 1) := by decide +kernel
theorem d_jdk_38_method_20_10 : decode jdk_38_method_20_code 10 = .ok (.iload_n 1, 1) := by decide +kernel
theorem ef_rc22_elementData (m : MethodId) (x0 : Addr) (x1 : Int32) : entryFrame m #[(.ref x0), (.int x1)] 2 = mkF m 0 #[.val (.ref x0), .val (.int x1)] [] := by first | (simp [entryFrame, mkF, argsToLocals, Value.category]; done) | rfl
theorem d_jdk_38_method_18_0 : decode jdk_38_method_18_code 0 = .ok (.aload_n 0, 1) := by decide +kernel
theorem d_jdk_38_method_18_1 : decode jdk_38_method_18_code 1 = .ok (.getfield 9, 3) := by decide +kernel
theorem d_jdk_38_method_18_4 : decode jdk_38_method_18_code 4 = .ok (.iload_n 1, 1) := by decide +kernel
theorem d_jdk_38_method_18_5 : decode jdk_38_method_18_code 5 = .ok (.aaload, 1) := by decide +kernel
theorem d_jdk_38_method_18_6 : decode jdk_38_method_18_code 6 = .ok (.areturn, 1) := by decide +kernel
theorem pd_11 : parseMethodDescriptor "(I)Ljava/lang/Object;" = some ⟨[.int], some (.object "java/lang/Object")⟩ := by decide +kernel
theorem d_jdk_38_method_20_11 : decode jdk_38_method_20_code 11 = .ok (.invokevirtual 123, 3) := by decide +kernel
theorem d_jdk_38_method_20_14 : decode jdk_38_method_20_code 14 = .ok (.areturn, 1) := by decide +kernel
theorem d_prog_22_method_11_85 : decode prog_22_method_11_code 85 = .ok (.invokeinterface 132 2, 5) := by decide +kernel
theorem d_prog_22_method_11_90 : decode prog_22_method_11_code 90 = .ok (.checkcast 56, 3) := by decide +kernel
theorem d_prog_22_method_11_93 : decode prog_22_method_11_code 93 = .ok (.invokevirtual 55, 3) := by decide +kernel
theorem d_prog_22_method_11_96 : decode prog_22_method_11_code 96 = .ok (.invokevirtual 61, 3) := by decide +kernel
theorem d_prog_22_method_11_99 : decode prog_22_method_11_code 99 = .ok (.lload_n 2, 1) := by decide +kernel
theorem d_prog_22_method_11_100 : decode prog_22_method_11_code 100 = .ok (.lcmp, 1) := by decide +kernel
theorem d_prog_22_method_11_101 : decode prog_22_method_11_code 101 = .ok (.ifCond .ne 19, 3) := by decide +kernel
theorem d_prog_22_method_11_104 : decode prog_22_method_11_code 104 = .ok (.aload_n 0, 1) := by decide +kernel
theorem d_prog_22_method_11_105 : decode prog_22_method_11_code 105 = .ok (.getfield 105, 3) := by decide +kernel
theorem d_prog_22_method_11_108 : decode prog_22_method_11_code 108 = .ok (.iload 4, 2) := by decide +kernel
theorem d_prog_22_method_11_110 : decode prog_22_method_11_code 110 = .ok (.aload_n 1, 1) := by decide +kernel
theorem ef_rc23_set (m : MethodId) (x0 : Addr) (x1 : Int32) (x2 : Addr) : entryFrame m #[(.ref x0), (.int x1), (.ref x2)] 4 = mkF m 0 #[.val (.ref x0), .val (.int x1), .val (.ref x2), .unset] [] := by first | (simp [entryFrame, mkF, argsToLocals, Value.category]; done) | rfl
theorem d_jdk_38_method_23_0 : decode jdk_38_method_23_code 0 = .ok (.iload_n 1, 1) := by decide +kernel
theorem d_jdk_38_method_23_1 : decode jdk_38_method_23_code 1 = .ok (.aload_n 0, 1) := by decide +kernel
theorem d_jdk_38_method_23_2 : decode jdk_38_method_23_code 2 = .ok (.getfield 48, 3) := by decide +kernel
theorem d_jdk_38_method_23_5 : decode jdk_38_method_23_code 5 = .ok (.invokestatic 118, 3) := by decide +kernel
theorem d_jdk_38_method_23_8 : decode jdk_38_method_23_code 8 = .ok (.pop, 1) := by decide +kernel
theorem d_jdk_38_method_23_9 : decode jdk_38_method_23_code 9 = .ok (.aload_n 0, 1) := by decide +kernel
theorem d_jdk_38_method_23_10 : decode jdk_38_method_23_code 10 = .ok (.iload_n 1, 1) := by decide +kernel
theorem d_jdk_38_method_23_11 : decode jdk_38_method_23_code 11 = .ok (.invokevirtual 123, 3) := by decide +kernel
theorem d_jdk_38_method_23_14 : decode jdk_38_method_23_code 14 = .ok (.astore_n 3, 1) := by decide +kernel
theorem d_jdk_38_method_23_15 : decode jdk_38_method_23_code 15 = .ok (.aload_n 0, 1) := by decide +kernel
theorem d_jdk_38_method_23_16 : decode jdk_38_method_23_code 16 = .ok (.getfield 9, 3) := by decide +kernel
theorem d_jdk_38_method_23_19 : decode jdk_38_method_23_code 19 = .ok (.iload_n 1, 1) := by decide +kernel
theorem d_jdk_38_method_23_20 : decode jdk_38_method_23_code 20 = .ok (.aload_n 2, 1) := by decide +kernel
theorem d_jdk_38_method_23_21 : decode jdk_38_method_23_code 21 = .ok (.aastore, 1) := by decide +kernel
theorem d_jdk_38_method_23_22 : decode jdk_38_method_23_code 22 = .ok (.aload_n 3, 1) := by decide +kernel
theorem d_jdk_38_method_23_23 : decode jdk_38_method_23_code 23 = .ok (.areturn, 1) := by decide +kernel
theorem pd_12 : parseMethodDescriptor "(ILjava/lang/Object;)Ljava/lang/Object;" = some ⟨[.int, (.object "java/lang/Object")], some (.object "java/lang/Object")⟩ := by decide +kernel
theorem d_prog_22_method_11_111 : decode prog_22_method_11_code 111 = .ok (.invokeinterface 136 3, 5) := by decide +kernel
theorem d_prog_22_method_11_116 : decode prog_22_method_11_code 116 = .ok (.checkcast 56, 3) := by decide +kernel
theorem d_prog_22_method_11_119 : decode prog_22_method_11_code 119 = .ok (.areturn, 1) := by decide +kernel
theorem ef_rs_N_AB_2 (m : MethodId) (x0 : Addr) (x1 : Int32) (x2 : Addr) (x3 : Addr) (x4 : Int64) (x5 : Int64) (x6 : Int32) (x7 : Int32) : entryFrame m #[(.ref x0), (.int x1), (.ref x2), (.ref x3), (.long x4), (.long x5), (.int x6), (.int x7)] 10 = mkF m 0 #[.val (.ref x0), .val (.int x1), .val (.ref x2), .val (.ref x3), .val (.long x4), .second, .val (.long x5), .second, .val (.int x6), .val (.int x7)] [] := by first | (simp [entryFrame, mkF, argsToLocals, Value.category]; done) | rfl
theorem ef_rc24_unname (m : MethodId) (x0 : Addr) (x1 : Int64) : entryFrame m #[(.ref x0), (.long x1)] 5 = mkF m 0 #[.val (.ref x0), .val (.long x1), .second, .unset, .unset] [] := by first | (simp [entryFrame, mkF, argsToLocals, Value.category]; done) | rfl
theorem d_prog_22_method_12_35 : decode prog_22_method_12_code 35 = .ok (.aload_n 0, 1) := by decide +kernel
theorem d_prog_22_method_12_36 : decode prog_22_method_12_code 36 = .ok (.aload_n 0, 1) := by decide +kernel
theorem d_prog_22_method_12_37 : decode prog_22_method_12_code 37 = .ok (.getfield 105, 3) := by decide +kernel
theorem d_prog_22_method_12_40 : decode prog_22_method_12_code 40 = .ok (.aload_n 0, 1) := by decide +kernel
theorem d_prog_22_method_12_41 : decode prog_22_method_12_code 41 = .ok (.getfield 105, 3) := by decide +kernel
theorem d_prog_22_method_12_44 : decode prog_22_method_12_code 44 = .ok (.invokeinterface 128 1, 5) := by decide +kernel
theorem d_prog_22_method_12_49 : decode prog_22_method_12_code 49 = .ok (.iconst 1, 1) := by decide +kernel
theorem d_prog_22_method_12_50 : decode prog_22_method_12_code 50 = .ok (.isub, 1) := by decide +kernel
theorem ef_rc25_remove (m : MethodId) (x0 : Addr) (x1 : Int32) : entryFrame m #[(.ref x0), (.int x1)] 4 = mkF m 0 #[.val (.ref x0), .val (.int x1), .unset, .unset] [] := by first | (simp [entryFrame, mkF, argsToLocals, Value.category]; done) | rfl
theorem d_jdk_38_method_29_0 : decode jdk_38_method_29_code 0 = .ok (.iload_n 1, 1) := by decide +kernel
theorem d_jdk_38_method_29_1 : decode jdk_38_method_29_code 1 = .ok (.aload_n 0, 1) := by decide +kernel
theorem d_jdk_38_method_29_2 : decode jdk_38_method_29_code 2 = .ok (.getfield 48, 3) := by decide +kernel
theorem d_jdk_38_method_29_5 : decode jdk_38_method_29_code 5 = .ok (.invokestatic 118, 3) := by decide +kernel
theorem d_jdk_38_method_29_8 : decode jdk_38_method_29_code 8 = .ok (.pop, 1) := by decide +kernel
theorem d_jdk_38_method_29_9 : decode jdk_38_method_29_code 9 = .ok (.aload_n 0, 1) := by decide +kernel
theorem d_jdk_38_method_29_10 : decode jdk_38_method_29_code 10 = .ok (.getfield 9, 3) := by decide +kernel
theorem d_jdk_38_method_29_13 : decode jdk_38_method_29_code 13 = .ok (.astore_n 2, 1) := by decide +kernel
theorem d_jdk_38_method_29_14 : decode jdk_38_method_29_code 14 = .ok (.aload_n 2, 1) := by decide +kernel
theorem d_jdk_38_method_29_15 : decode jdk_38_method_29_code 15 = .ok (.iload_n 1, 1) := by decide +kernel
theorem d_jdk_38_method_29_16 : decode jdk_38_method_29_code 16 = .ok (.aaload, 1) := by decide +kernel
theorem d_jdk_38_method_29_17 : decode jdk_38_method_29_code 17 = .ok (.astore_n 3, 1) := by decide +kernel
theorem d_jdk_38_method_29_18 : decode jdk_38_method_29_code 18 = .ok (.aload_n 0, 1) := by decide +kernel
theorem d_jdk_38_method_29_19 : decode jdk_38_method_29_code 19 = .ok (.aload_n 2, 1) := by decide +kernel
theorem d_jdk_38_method_29_20 : decode jdk_38_method_29_code 20 = .ok (.iload_n 1, 1) := by decide +kernel
theorem ef_rc26_fastRemove (m : MethodId) (x0 : Addr) (x1 : Addr) (x2 : Int32) : entryFrame m #[(.ref x0), (.ref x1), (.int x2)] 4 = mkF m 0 #[.val (.ref x0), .val (.ref x1), .val (.int x2), .unset] [] := by first | (simp [entryFrame, mkF, argsToLocals, Value.category]; done) | rfl
theorem d_jdk_38_method_39_0 : decode jdk_38_method_39_code 0 = .ok (.aload_n 0, 1) := by decide +kernel
theorem d_jdk_38_method_39_1 : decode jdk_38_method_39_code 1 = .ok (.dup, 1) := by decide +kernel
theorem d_jdk_38_method_39_2 : decode jdk_38_method_39_code 2 = .ok (.getfield 63, 3) := by decide +kernel
theorem d_jdk_38_method_39_5 : decode jdk_38_method_39_code 5 = .ok (.iconst 1, 1) := by decide +kernel
theorem d_jdk_38_method_39_6 : decode jdk_38_method_39_code 6 = .ok (.iadd, 1) := by decide +kernel
theorem d_jdk_38_method_39_7 : decode jdk_38_method_39_code 7 = .ok (.putfield 63, 3) := by decide +kernel
theorem d_jdk_38_method_39_10 : decode jdk_38_method_39_code 10 = .ok (.aload_n 0, 1) := by decide +kernel
theorem d_jdk_38_method_39_11 : decode jdk_38_method_39_code 11 = .ok (.getfield 48, 3) := by decide +kernel
theorem d_jdk_38_method_39_14 : decode jdk_38_method_39_code 14 = .ok (.iconst 1, 1) := by decide +kernel
theorem d_jdk_38_method_39_15 : decode jdk_38_method_39_code 15 = .ok (.isub, 1) := by decide +kernel
theorem d_jdk_38_method_39_16 : decode jdk_38_method_39_code 16 = .ok (.dup, 1) := by decide +kernel
theorem d_jdk_38_method_39_17 : decode jdk_38_method_39_code 17 = .ok (.istore_n 3, 1) := by decide +kernel
theorem d_jdk_38_method_39_18 : decode jdk_38_method_39_code 18 = .ok (.iload_n 2, 1) := by decide +kernel
theorem d_jdk_38_method_39_19 : decode jdk_38_method_39_code 19 = .ok (.if_icmp .le 15, 3) := by decide +kernel
theorem d_jdk_38_method_39_34 : decode jdk_38_method_39_code 34 = .ok (.aload_n 1, 1) := by decide +kernel
theorem d_jdk_38_method_39_35 : decode jdk_38_method_39_code 35 = .ok (.aload_n 0, 1) := by decide +kernel
theorem d_jdk_38_method_39_36 : decode jdk_38_method_39_code 36 = .ok (.iload_n 3, 1) := by decide +kernel
theorem d_jdk_38_method_39_37 : decode jdk_38_method_39_code 37 = .ok (.dup_x1, 1) := by decide +kernel
theorem d_jdk_38_method_39_38 : decode jdk_38_method_39_code 38 = .ok (.putfield 48, 3) := by decide +kernel
theorem d_jdk_38_method_39_41 : decode jdk_38_method_39_code 41 = .ok (.aconst_null, 1) := by decide +kernel
theorem d_jdk_38_method_39_42 : decode jdk_38_method_39_code 42 = .ok (.aastore, 1) := by decide +kernel
theorem d_jdk_38_method_39_43 : decode jdk_38_method_39_code 43 = .ok (.return_, 1) := by decide +kernel
theorem pd_13 : parseMethodDescriptor "([Ljava/lang/Object;I)V" = some ⟨[(.array (.object "java/lang/Object")), .int], none⟩ := by decide +kernel
theorem d_jdk_38_method_29_21 : decode jdk_38_method_29_code 21 = .ok (.invokevirtual 144, 3) := by decide +kernel
theorem d_jdk_38_method_29_24 : decode jdk_38_method_29_code 24 = .ok (.aload_n 3, 1) := by decide +kernel
theorem d_jdk_38_method_29_25 : decode jdk_38_method_29_code 25 = .ok (.areturn, 1) := by decide +kernel
theorem d_prog_22_method_12_51 : decode prog_22_method_12_code 51 = .ok (.invokeinterface 144 2, 5) := by decide +kernel
theorem d_prog_22_method_12_56 : decode prog_22_method_12_code 56 = .ok (.checkcast 56, 3) := by decide +kernel
theorem d_prog_22_method_12_59 : decode prog_22_method_12_code 59 = .ok (.putfield 98, 3) := by decide +kernel
theorem d_prog_22_method_12_62 : decode prog_22_method_12_code 62 = .ok (.aload_n 0, 1) := by decide +kernel
theorem d_prog_22_method_12_63 : decode prog_22_method_12_code 63 = .ok (.aload_n 0, 1) := by decide +kernel
theorem d_prog_22_method_12_64 : decode prog_22_method_12_code 64 = .ok (.getfield 98, 3) := by decide +kernel
theorem d_prog_22_method_12_67 : decode prog_22_method_12_code 67 = .ok (.invokevirtual 55, 3) := by decide +kernel
theorem d_prog_22_method_12_70 : decode prog_22_method_12_code 70 = .ok (.invokevirtual 61, 3) := by decide +kernel
theorem d_prog_22_method_12_73 : decode prog_22_method_12_code 73 = .ok (.putfield 102, 3) := by decide +kernel
theorem d_prog_22_method_12_76 : decode prog_22_method_12_code 76 = .ok (.aload_n 0, 1) := by decide +kernel
theorem d_prog_22_method_12_77 : decode prog_22_method_12_code 77 = .ok (.getfield 105, 3) := by decide +kernel
theorem ef_rc27_isEmpty (m : MethodId) (x0 : Addr) : entryFrame m #[(.ref x0)] 1 = mkF m 0 #[.val (.ref x0)] [] := by first | (simp [entryFrame, mkF, argsToLocals, Value.category]; done) | rfl
theorem d_jdk_38_method_9_0 : decode jdk_38_method_9_code 0 = .ok (.aload_n 0, 1) := by decide +kernel
theorem d_jdk_38_method_9_1 : decode jdk_38_method_9_code 1 = .ok (.getfield 48, 3) := by decide +kernel
theorem d_jdk_38_method_9_4 : decode jdk_38_method_9_code 4 = .ok (.ifCond .ne 7, 3) := by decide +kernel
theorem d_jdk_38_method_9_7 : decode jdk_38_method_9_code 7 = .ok (.iconst 1, 1) := by decide +kernel
theorem d_jdk_38_method_9_8 : decode jdk_38_method_9_code 8 = .ok (.goto 4, 3) := by decide +kernel
theorem d_jdk_38_method_9_12 : decode jdk_38_method_9_code 12 = .ok (.ireturn, 1) := by decide +kernel
theorem pd_14 : parseMethodDescriptor "()Z" = some ⟨[], some .boolean⟩ := by decide +kernel
theorem d_prog_22_method_12_80 : decode prog_22_method_12_code 80 = .ok (.invokeinterface 146 1, 5) := by decide +kernel
theorem d_prog_22_method_12_85 : decode prog_22_method_12_code 85 = .ok (.ifCond .eq 8, 3) := by decide +kernel
theorem d_prog_22_method_12_88 : decode prog_22_method_12_code 88 = .ok (.aload_n 0, 1) := by decide +kernel
theorem d_prog_22_method_12_89 : decode prog_22_method_12_code 89 = .ok (.aconst_null, 1) := by decide +kernel
theorem d_prog_22_method_12_90 : decode prog_22_method_12_code 90 = .ok (.putfield 105, 3) := by decide +kernel
theorem ef_rs_N_AB_3 (m : MethodId) (x0 : Addr) (x1 : Int32) (x2 : Addr) (x3 : Addr) (x4 : Int64) (x5 : Int64) (x6 : Int32) (x7 : Int32) : entryFrame m #[(.ref x0), (.int x1), (.ref x2), (.ref x3), (.long x4), (.long x5), (.int x6), (.int x7)] 10 = mkF m 0 #[.val (.ref x0), .val (.int x1), .val (.ref x2), .val (.ref x3), .val (.long x4), .second, .val (.long x5), .second, .val (.int x6), .val (.int x7)] [] := by first | (simp [entryFrame, mkF, argsToLocals, Value.category]; done) | rfl
theorem ef_rc28_unname (m : MethodId) (x0 : Addr) (x1 : Int64) : entryFrame m #[(.ref x0), (.long x1)] 5 = mkF m 0 #[.val (.ref x0), .val (.long x1), .second, .unset, .unset] [] := by first | (simp [entryFrame, mkF, argsToLocals, Value.category]; done) | rfl
theorem d_prog_22_method_12_102 : decode prog_22_method_12_code 102 = .ok (.iconst 0, 1) := by decide +kernel
theorem d_prog_22_method_12_103 : decode prog_22_method_12_code 103 = .ok (.istore_n 3, 1) := by decide +kernel
theorem d_prog_22_method_12_104 : decode prog_22_method_12_code 104 = .ok (.iload_n 3, 1) := by decide +kernel
theorem d_prog_22_method_12_105 : decode prog_22_method_12_code 105 = .ok (.aload_n 0, 1) := by decide +kernel
theorem d_prog_22_method_12_106 : decode prog_22_method_12_code 106 = .ok (.getfield 105, 3) := by decide +kernel
theorem d_prog_22_method_12_109 : decode prog_22_method_12_code 109 = .ok (.invokeinterface 128 1, 5) := by decide +kernel
theorem d_prog_22_method_12_114 : decode prog_22_method_12_code 114 = .ok (.if_icmp .ge 68, 3) := by decide +kernel
theorem d_prog_22_method_12_117 : decode prog_22_method_12_code 117 = .ok (.aload_n 0, 1) := by decide +kernel
theorem d_prog_22_method_12_118 : decode prog_22_method_12_code 118 = .ok (.getfield 105, 3) := by decide +kernel
theorem d_prog_22_method_12_121 : decode prog_22_method_12_code 121 = .ok (.iload_n 3, 1) := by decide +kernel
theorem d_prog_22_method_12_122 : decode prog_22_method_12_code 122 = .ok (.invokeinterface 132 2, 5) := by decide +kernel
theorem d_prog_22_method_12_127 : decode prog_22_method_12_code 127 = .ok (.checkcast 56, 3) := by decide +kernel
theorem d_prog_22_method_12_130 : decode prog_22_method_12_code 130 = .ok (.invokevirtual 55, 3) := by decide +kernel
theorem d_prog_22_method_12_133 : decode prog_22_method_12_code 133 = .ok (.invokevirtual 61, 3) := by decide +kernel
theorem d_prog_22_method_12_136 : decode prog_22_method_12_code 136 = .ok (.lload_n 1, 1) := by decide +kernel
theorem d_prog_22_method_12_137 : decode prog_22_method_12_code 137 = .ok (.lcmp, 1) := by decide +kernel
theorem d_prog_22_method_12_138 : decode prog_22_method_12_code 138 = .ok (.ifCond .ne 38, 3) := by decide +kernel
theorem d_prog_22_method_12_141 : decode prog_22_method_12_code 141 = .ok (.aload_n 0, 1) := by decide +kernel
theorem d_prog_22_method_12_142 : decode prog_22_method_12_code 142 = .ok (.getfield 105, 3) := by decide +kernel
theorem d_prog_22_method_12_145 : decode prog_22_method_12_code 145 = .ok (.iload_n 3, 1) := by decide +kernel
theorem d_prog_22_method_12_146 : decode prog_22_method_12_code 146 = .ok (.invokeinterface 144 2, 5) := by decide +kernel
theorem d_prog_22_method_12_151 : decode prog_22_method_12_code 151 = .ok (.checkcast 56, 3) := by decide +kernel
theorem d_prog_22_method_12_154 : decode prog_22_method_12_code 154 = .ok (.astore 4, 2) := by decide +kernel
theorem d_prog_22_method_12_156 : decode prog_22_method_12_code 156 = .ok (.aload_n 0, 1) := by decide +kernel
theorem d_prog_22_method_12_157 : decode prog_22_method_12_code 157 = .ok (.getfield 105, 3) := by decide +kernel
theorem d_prog_22_method_12_160 : decode prog_22_method_12_code 160 = .ok (.invokeinterface 146 1, 5) := by decide +kernel
theorem d_prog_22_method_12_165 : decode prog_22_method_12_code 165 = .ok (.ifCond .eq 8, 3) := by decide +kernel
theorem d_prog_22_method_12_168 : decode prog_22_method_12_code 168 = .ok (.aload_n 0, 1) := by decide +kernel
theorem d_prog_22_method_12_169 : decode prog_22_method_12_code 169 = .ok (.aconst_null, 1) := by decide +kernel
theorem d_prog_22_method_12_170 : decode prog_22_method_12_code 170 = .ok (.putfield 105, 3) := by decide +kernel
theorem d_prog_22_method_12_173 : decode prog_22_method_12_code 173 = .ok (.aload 4, 2) := by decide +kernel
theorem d_prog_22_method_12_175 : decode prog_22_method_12_code 175 = .ok (.areturn, 1) := by decide +kernel
theorem ef_rs_N_BA_0 (m : MethodId) (x0 : Addr) (x1 : Int32) (x2 : Addr) (x3 : Addr) (x4 : Int64) (x5 : Int64) (x6 : Int32) (x7 : Int32) : entryFrame m #[(.ref x0), (.int x1), (.ref x2), (.ref x3), (.long x4), (.long x5), (.int x6), (.int x7)] 10 = mkF m 0 #[.val (.ref x0), .val (.int x1), .val (.ref x2), .val (.ref x3), .val (.long x4), .second, .val (.long x5), .second, .val (.int x6), .val (.int x7)] [] := by first | (simp [entryFrame, mkF, argsToLocals, Value.category]; done) | rfl
theorem ef_rs_N_BA_1 (m : MethodId) (x0 : Addr) (x1 : Int32) (x2 : Addr) (x3 : Addr) (x4 : Int64) (x5 : Int64) (x6 : Int32) (x7 : Int32) : entryFrame m #[(.ref x0), (.int x1), (.ref x2), (.ref x3), (.long x4), (.long x5), (.int x6), (.int x7)] 10 = mkF m 0 #[.val (.ref x0), .val (.int x1), .val (.ref x2), .val (.ref x3), .val (.long x4), .second, .val (.long x5), .second, .val (.int x6), .val (.int x7)] [] := by first | (simp [entryFrame, mkF, argsToLocals, Value.category]; done) | rfl
theorem ef_rs_N_BA_2 (m : MethodId) (x0 : Addr) (x1 : Int32) (x2 : Addr) (x3 : Addr) (x4 : Int64) (x5 : Int64) (x6 : Int32) (x7 : Int32) : entryFrame m #[(.ref x0), (.int x1), (.ref x2), (.ref x3), (.long x4), (.long x5), (.int x6), (.int x7)] 10 = mkF m 0 #[.val (.ref x0), .val (.int x1), .val (.ref x2), .val (.ref x3), .val (.long x4), .second, .val (.long x5), .second, .val (.int x6), .val (.int x7)] [] := by first | (simp [entryFrame, mkF, argsToLocals, Value.category]; done) | rfl
theorem ef_rs_N_BA_3 (m : MethodId) (x0 : Addr) (x1 : Int32) (x2 : Addr) (x3 : Addr) (x4 : Int64) (x5 : Int64) (x6 : Int32) (x7 : Int32) : entryFrame m #[(.ref x0), (.int x1), (.ref x2), (.ref x3), (.long x4), (.long x5), (.int x6), (.int x7)] 10 = mkF m 0 #[.val (.ref x0), .val (.int x1), .val (.ref x2), .val (.ref x3), .val (.long x4), .second, .val (.long x5), .second, .val (.int x6), .val (.int x7)] [] := by first | (simp [entryFrame, mkF, argsToLocals, Value.category]; done) | rfl
theorem ef_rs_E_0_0 (m : MethodId) (x0 : Addr) (x1 : Int32) (x2 : Addr) (x3 : Addr) (x4 : Int64) (x5 : Int64) (x6 : Int32) (x7 : Int32) : entryFrame m #[(.ref x0), (.int x1), (.ref x2), (.ref x3), (.long x4), (.long x5), (.int x6), (.int x7)] 10 = mkF m 0 #[.val (.ref x0), .val (.int x1), .val (.ref x2), .val (.ref x3), .val (.long x4), .second, .val (.long x5), .second, .val (.int x6), .val (.int x7)] [] := by first | (simp [entryFrame, mkF, argsToLocals, Value.category]; done) | rfl
theorem d_method_3_17 : decode method_3_code 17 = .ok (.iconst 3, 1) := by decide +kernel
theorem d_method_3_18 : decode method_3_code 18 = .ok (.goto 4, 3) := by decide +kernel
theorem ef_rs_E_0_1 (m : MethodId) (x0 : Addr) (x1 : Int32) (x2 : Addr) (x3 : Addr) (x4 : Int64) (x5 : Int64) (x6 : Int32) (x7 : Int32) : entryFrame m #[(.ref x0), (.int x1), (.ref x2), (.ref x3), (.long x4), (.long x5), (.int x6), (.int x7)] 10 = mkF m 0 #[.val (.ref x0), .val (.int x1), .val (.ref x2), .val (.ref x3), .val (.long x4), .second, .val (.long x5), .second, .val (.int x6), .val (.int x7)] [] := by first | (simp [entryFrame, mkF, argsToLocals, Value.category]; done) | rfl
theorem d_method_3_42 : decode method_3_code 42 = .ok (.iconst 3, 1) := by decide +kernel
theorem d_method_3_43 : decode method_3_code 43 = .ok (.goto 4, 3) := by decide +kernel
theorem ef_rs_E_0_2 (m : MethodId) (x0 : Addr) (x1 : Int32) (x2 : Addr) (x3 : Addr) (x4 : Int64) (x5 : Int64) (x6 : Int32) (x7 : Int32) : entryFrame m #[(.ref x0), (.int x1), (.ref x2), (.ref x3), (.long x4), (.long x5), (.int x6), (.int x7)] 10 = mkF m 0 #[.val (.ref x0), .val (.int x1), .val (.ref x2), .val (.ref x3), .val (.long x4), .second, .val (.long x5), .second, .val (.int x6), .val (.int x7)] [] := by first | (simp [entryFrame, mkF, argsToLocals, Value.category]; done) | rfl
theorem d_method_3_68 : decode method_3_code 68 = .ok (.iconst 0, 1) := by decide +kernel
theorem d_method_3_69 : decode method_3_code 69 = .ok (.goto 4, 3) := by decide +kernel
theorem ef_rs_E_0_3 (m : MethodId) (x0 : Addr) (x1 : Int32) (x2 : Addr) (x3 : Addr) (x4 : Int64) (x5 : Int64) (x6 : Int32) (x7 : Int32) : entryFrame m #[(.ref x0), (.int x1), (.ref x2), (.ref x3), (.long x4), (.long x5), (.int x6), (.int x7)] 10 = mkF m 0 #[.val (.ref x0), .val (.int x1), .val (.ref x2), .val (.ref x3), .val (.long x4), .second, .val (.long x5), .second, .val (.int x6), .val (.int x7)] [] := by first | (simp [entryFrame, mkF, argsToLocals, Value.category]; done) | rfl
theorem d_method_3_89 : decode method_3_code 89 = .ok (.iconst 0, 1) := by decide +kernel
theorem d_method_3_90 : decode method_3_code 90 = .ok (.goto 4, 3) := by decide +kernel
theorem ef_rs_E_A_0 (m : MethodId) (x0 : Addr) (x1 : Int32) (x2 : Addr) (x3 : Addr) (x4 : Int64) (x5 : Int64) (x6 : Int32) (x7 : Int32) : entryFrame m #[(.ref x0), (.int x1), (.ref x2), (.ref x3), (.long x4), (.long x5), (.int x6), (.int x7)] 10 = mkF m 0 #[.val (.ref x0), .val (.int x1), .val (.ref x2), .val (.ref x3), .val (.long x4), .second, .val (.long x5), .second, .val (.int x6), .val (.int x7)] [] := by first | (simp [entryFrame, mkF, argsToLocals, Value.category]; done) | rfl
theorem ef_rs_E_A_1 (m : MethodId) (x0 : Addr) (x1 : Int32) (x2 : Addr) (x3 : Addr) (x4 : Int64) (x5 : Int64) (x6 : Int32) (x7 : Int32) : entryFrame m #[(.ref x0), (.int x1), (.ref x2), (.ref x3), (.long x4), (.long x5), (.int x6), (.int x7)] 10 = mkF m 0 #[.val (.ref x0), .val (.int x1), .val (.ref x2), .val (.ref x3), .val (.long x4), .second, .val (.long x5), .second, .val (.int x6), .val (.int x7)] [] := by first | (simp [entryFrame, mkF, argsToLocals, Value.category]; done) | rfl
theorem ef_rc29_name (m : MethodId) (x0 : Addr) (x1 : Addr) : entryFrame m #[(.ref x0), (.ref x1)] 5 = mkF m 0 #[.val (.ref x0), .val (.ref x1), .unset, .unset, .unset] [] := by first | (simp [entryFrame, mkF, argsToLocals, Value.category]; done) | rfl
theorem ef_rs_E_A_2 (m : MethodId) (x0 : Addr) (x1 : Int32) (x2 : Addr) (x3 : Addr) (x4 : Int64) (x5 : Int64) (x6 : Int32) (x7 : Int32) : entryFrame m #[(.ref x0), (.int x1), (.ref x2), (.ref x3), (.long x4), (.long x5), (.int x6), (.int x7)] 10 = mkF m 0 #[.val (.ref x0), .val (.int x1), .val (.ref x2), .val (.ref x3), .val (.long x4), .second, .val (.long x5), .second, .val (.int x6), .val (.int x7)] [] := by first | (simp [entryFrame, mkF, argsToLocals, Value.category]; done) | rfl
theorem ef_rs_E_A_3 (m : MethodId) (x0 : Addr) (x1 : Int32) (x2 : Addr) (x3 : Addr) (x4 : Int64) (x5 : Int64) (x6 : Int32) (x7 : Int32) : entryFrame m #[(.ref x0), (.int x1), (.ref x2), (.ref x3), (.long x4), (.long x5), (.int x6), (.int x7)] 10 = mkF m 0 #[.val (.ref x0), .val (.int x1), .val (.ref x2), .val (.ref x3), .val (.long x4), .second, .val (.long x5), .second, .val (.int x6), .val (.int x7)] [] := by first | (simp [entryFrame, mkF, argsToLocals, Value.category]; done) | rfl
theorem ef_rc30_unname (m : MethodId) (x0 : Addr) (x1 : Int64) : entryFrame m #[(.ref x0), (.long x1)] 5 = mkF m 0 #[.val (.ref x0), .val (.long x1), .second, .unset, .unset] [] := by first | (simp [entryFrame, mkF, argsToLocals, Value.category]; done) | rfl
theorem ef_rs_E_B_0 (m : MethodId) (x0 : Addr) (x1 : Int32) (x2 : Addr) (x3 : Addr) (x4 : Int64) (x5 : Int64) (x6 : Int32) (x7 : Int32) : entryFrame m #[(.ref x0), (.int x1), (.ref x2), (.ref x3), (.long x4), (.long x5), (.int x6), (.int x7)] 10 = mkF m 0 #[.val (.ref x0), .val (.int x1), .val (.ref x2), .val (.ref x3), .val (.long x4), .second, .val (.long x5), .second, .val (.int x6), .val (.int x7)] [] := by first | (simp [entryFrame, mkF, argsToLocals, Value.category]; done) | rfl
theorem ef_rs_E_B_1 (m : MethodId) (x0 : Addr) (x1 : Int32) (x2 : Addr) (x3 : Addr) (x4 : Int64) (x5 : Int64) (x6 : Int32) (x7 : Int32) : entryFrame m #[(.ref x0), (.int x1), (.ref x2), (.ref x3), (.long x4), (.long x5), (.int x6), (.int x7)] 10 = mkF m 0 #[.val (.ref x0), .val (.int x1), .val (.ref x2), .val (.ref x3), .val (.long x4), .second, .val (.long x5), .second, .val (.int x6), .val (.int x7)] [] := by first | (simp [entryFrame, mkF, argsToLocals, Value.category]; done) | rfl
theorem ef_rs_E_B_2 (m : MethodId) (x0 : Addr) (x1 : Int32) (x2 : Addr) (x3 : Addr) (x4 : Int64) (x5 : Int64) (x6 : Int32) (x7 : Int32) : entryFrame m #[(.ref x0), (.int x1), (.ref x2), (.ref x3), (.long x4), (.long x5), (.int x6), (.int x7)] 10 = mkF m 0 #[.val (.ref x0), .val (.int x1), .val (.ref x2), .val (.ref x3), .val (.long x4), .second, .val (.long x5), .second, .val (.int x6), .val (.int x7)] [] := by first | (simp [entryFrame, mkF, argsToLocals, Value.category]; done) | rfl
theorem ef_rs_E_B_3 (m : MethodId) (x0 : Addr) (x1 : Int32) (x2 : Addr) (x3 : Addr) (x4 : Int64) (x5 : Int64) (x6 : Int32) (x7 : Int32) : entryFrame m #[(.ref x0), (.int x1), (.ref x2), (.ref x3), (.long x4), (.long x5), (.int x6), (.int x7)] 10 = mkF m 0 #[.val (.ref x0), .val (.int x1), .val (.ref x2), .val (.ref x3), .val (.long x4), .second, .val (.long x5), .second, .val (.int x6), .val (.int x7)] [] := by first | (simp [entryFrame, mkF, argsToLocals, Value.category]; done) | rfl
theorem ef_isn_0 (m : MethodId) (x0 : Addr) : entryFrame m #[(.ref x0)] 1 = mkF m 0 #[.val (.ref x0)] [] := by first | (simp [entryFrame, mkF, argsToLocals, Value.category]; done) | rfl
theorem d_prog_22_method_13_0 : decode prog_22_method_13_code 0 = .ok (.aload_n 0, 1) := by decide +kernel
theorem d_prog_22_method_13_1 : decode prog_22_method_13_code 1 = .ok (.getfield 98, 3) := by decide +kernel
theorem d_prog_22_method_13_4 : decode prog_22_method_13_code 4 = .ok (.ifnull 7, 3) := by decide +kernel
theorem d_prog_22_method_13_11 : decode prog_22_method_13_code 11 = .ok (.iconst 0, 1) := by decide +kernel
theorem d_prog_22_method_13_12 : decode prog_22_method_13_code 12 = .ok (.ireturn, 1) := by decide +kernel
theorem ef_isn_1 (m : MethodId) (x0 : Addr) : entryFrame m #[(.ref x0)] 1 = mkF m 0 #[.val (.ref x0)] [] := by first | (simp [entryFrame, mkF, argsToLocals, Value.category]; done) | rfl
theorem d_prog_22_method_13_7 : decode prog_22_method_13_code 7 = .ok (.iconst 1, 1) := by decide +kernel
theorem d_prog_22_method_13_8 : decode prog_22_method_13_code 8 = .ok (.goto 4, 3) := by decide +kernel
theorem ef_rm0 (m : MethodId) (x0 : Int64) (x1 : Int64) (x2 : Int32) (x3 : Int32) (x4 : Int32) : entryFrame m #[(.long x0), (.long x1), (.int x2), (.int x3), (.int x4)] maxLocals = mkF m 0 #[.val (.long x0), .second, .val (.long x1), .second, .val (.int x2), .val (.int x3), .val (.int x4), .unset, .unset, .unset, .unset, .unset, .unset, .unset, .unset, .unset, .unset, .unset] [] := by first | (simp [entryFrame, mkF, argsToLocals, Value.category, maxLocals]; done) | rfl
theorem ef_rc31_valueOf (m : MethodId) (x0 : Int32) : entryFrame m #[(.int x0)] 1 = mkF m 0 #[.val (.int x0)] [] := by first | (simp [entryFrame, mkF, argsToLocals, Value.category]; done) | rfl
theorem d_jdk_42_method_139_0 : decode jdk_42_method_139_code 0 = .ok (.getstatic 38, 3) := by decide +kernel
theorem d_jdk_42_method_139_3 : decode jdk_42_method_139_code 3 = .ok (.ifCond .eq 23, 3) := by decide +kernel
theorem d_jdk_42_method_139_6 : decode jdk_42_method_139_code 6 = .ok (.iload_n 0, 1) := by decide +kernel
theorem ef_rc32_canEncode (m : MethodId) (x0 : Int32) : entryFrame m #[(.int x0)] 1 = mkF m 0 #[.val (.int x0)] [] := by first | (simp [entryFrame, mkF, argsToLocals, Value.category]; done) | rfl
theorem d_jdk_43_method_3_0 : decode jdk_43_method_3_code 0 = .ok (.iload_n 0, 1) := by decide +kernel
theorem d_jdk_43_method_3_1 : decode jdk_43_method_3_code 1 = .ok (.sipush 255, 3) := by decide +kernel
theorem d_jdk_43_method_3_4 : decode jdk_43_method_3_code 4 = .ok (.if_icmp .gt 7, 3) := by decide +kernel
theorem d_jdk_43_method_3_7 : decode jdk_43_method_3_code 7 = .ok (.iconst 1, 1) := by decide +kernel
theorem d_jdk_43_method_3_8 : decode jdk_43_method_3_code 8 = .ok (.goto 4, 3) := by decide +kernel
theorem d_jdk_43_method_3_12 : decode jdk_43_method_3_code 12 = .ok (.ireturn, 1) := by decide +kernel
theorem pn_9 : plainName "java/lang/StringLatin1" = true := by first | (simp [plainName, overriddenIn]; done) | decide +kernel
theorem pd_15 : parseMethodDescriptor "(C)Z" = some ⟨[.char], some .boolean⟩ := by decide +kernel
theorem d_jdk_42_method_139_7 : decode jdk_42_method_139_code 7 = .ok (.invokestatic 1015, 3) := by decide +kernel
theorem d_jdk_42_method_139_10 : decode jdk_42_method_139_code 10 = .ok (.ifCond .eq 16, 3) := by decide +kernel
theorem d_jdk_42_method_139_13 : decode jdk_42_method_139_code 13 = .ok (.new 10, 3) := by decide +kernel
theorem d_jdk_42_method_139_16 : decode jdk_42_method_139_code 16 = .ok (.dup, 1) := by decide +kernel
theorem d_jdk_42_method_139_17 : decode jdk_42_method_139_code 17 = .ok (.iload_n 0, 1) := by decide +kernel
theorem ef_rc33_toBytes (m : MethodId) (x0 : Int32) : entryFrame m #[(.int x0)] 1 = mkF m 0 #[.val (.int x0)] [] := by first | (simp [entryFrame, mkF, argsToLocals, Value.category]; done) | rfl
theorem d_jdk_43_method_46_0 : decode jdk_43_method_46_code 0 = .ok (.iconst 1, 1) := by decide +kernel
theorem d_jdk_43_method_46_1 : decode jdk_43_method_46_code 1 = .ok (.newarray .byte, 2) := by decide +kernel
theorem d_jdk_43_method_46_3 : decode jdk_43_method_46_code 3 = .ok (.dup, 1) := by decide +kernel
theorem d_jdk_43_method_46_4 : decode jdk_43_method_46_code 4 = .ok (.iconst 0, 1) := by decide +kernel
theorem d_jdk_43_method_46_5 : decode jdk_43_method_46_code 5 = .ok (.iload_n 0, 1) := by decide +kernel
theorem d_jdk_43_method_46_6 : decode jdk_43_method_46_code 6 = .ok (.i2b, 1) := by decide +kernel
theorem d_jdk_43_method_46_7 : decode jdk_43_method_46_code 7 = .ok (.bastore, 1) := by decide +kernel
theorem d_jdk_43_method_46_8 : decode jdk_43_method_46_code 8 = .ok (.areturn, 1) := by decide +kernel
theorem pd_16 : parseMethodDescriptor "(C)[B" = some ⟨[.char], some (.array .byte)⟩ := by decide +kernel
theorem d_jdk_42_method_139_18 : decode jdk_42_method_139_code 18 = .ok (.invokestatic 1018, 3) := by decide +kernel
theorem d_jdk_42_method_139_21 : decode jdk_42_method_139_code 21 = .ok (.iconst 0, 1) := by decide +kernel
theorem ef_rc34_init (m : MethodId) (x0 : Addr) (x1 : Addr) (x2 : Int32) : entryFrame m #[(.ref x0), (.ref x1), (.int x2)] 3 = mkF m 0 #[.val (.ref x0), .val (.ref x1), .val (.int x2)] [] := by first | (simp [entryFrame, mkF, argsToLocals, Value.category]; done) | rfl
theorem d_jdk_42_method_151_0 : decode jdk_42_method_151_code 0 = .ok (.aload_n 0, 1) := by decide +kernel
theorem d_jdk_42_method_151_1 : decode jdk_42_method_151_code 1 = .ok (.invokespecial 1, 3) := by decide +kernel
theorem d_jdk_42_method_151_4 : decode jdk_42_method_151_code 4 = .ok (.aload_n 0, 1) := by decide +kernel
theorem d_jdk_42_method_151_5 : decode jdk_42_method_151_code 5 = .ok (.aload_n 1, 1) := by decide +kernel
theorem d_jdk_42_method_151_6 : decode jdk_42_method_151_code 6 = .ok (.putfield 9, 3) := by decide +kernel
theorem d_jdk_42_method_151_9 : decode jdk_42_method_151_code 9 = .ok (.aload_n 0, 1) := by decide +kernel
theorem d_jdk_42_method_151_10 : decode jdk_42_method_151_code 10 = .ok (.iload_n 2, 1) := by decide +kernel
theorem d_jdk_42_method_151_11 : decode jdk_42_method_151_code 11 = .ok (.putfield 15, 3) := by decide +kernel
theorem d_jdk_42_method_151_14 : decode jdk_42_method_151_code 14 = .ok (.return_, 1) := by decide +kernel
theorem pn_10 : plainName "java/lang/String" = true := by first | (simp [plainName, overriddenIn]; done) | decide +kernel
theorem pd_17 : parseMethodDescriptor "([BB)V" = some ⟨[(.array .byte), .byte], none⟩ := by decide +kernel
theorem d_jdk_42_method_139_22 : decode jdk_42_method_139_code 22 = .ok (.invokespecial 209, 3) := by decide +kernel
theorem d_jdk_42_method_139_25 : decode jdk_42_method_139_code 25 = .ok (.areturn, 1) := by decide +kernel
theorem pd_18 : parseMethodDescriptor "(C)Ljava/lang/String;" = some ⟨[.char], some (.object "java/lang/String")⟩ := by decide +kernel
theorem pd_19 : parseMethodDescriptor "(JJ)J" = some ⟨[.long, .long], some .long⟩ := by decide +kernel
theorem ef_rc35_init (m : MethodId) (x0 : Addr) (x1 : Addr) : entryFrame m #[(.ref x0), (.ref x1)] 2 = mkF m 0 #[.val (.ref x0), .val (.ref x1)] [] := by first | (simp [entryFrame, mkF, argsToLocals, Value.category]; done) | rfl
theorem d_prog_22_method_1_0 : decode prog_22_method_1_code 0 = .ok (.aload_n 0, 1) := by decide +kernel
theorem d_prog_22_method_1_1 : decode prog_22_method_1_code 1 = .ok (.invokespecial 1, 3) := by decide +kernel
theorem d_prog_22_method_1_4 : decode prog_22_method_1_code 4 = .ok (.aload_n 0, 1) := by decide +kernel
theorem d_prog_22_method_1_5 : decode prog_22_method_1_code 5 = .ok (.new 7, 3) := by decide +kernel
theorem d_prog_22_method_1_8 : decode prog_22_method_1_code 8 = .ok (.dup, 1) := by decide +kernel
theorem ef_rc36_init (m : MethodId) (x0 : Addr) : entryFrame m #[(.ref x0)] 1 = mkF m 0 #[.val (.ref x0)] [] := by first | (simp [entryFrame, mkF, argsToLocals, Value.category]; done) | rfl
theorem d_jdk_2729_method_1_0 : decode jdk_2729_method_1_code 0 = .ok (.aload_n 0, 1) := by decide +kernel
theorem ef_rc37_init (m : MethodId) (x0 : Addr) : entryFrame m #[(.ref x0)] 1 = mkF m 0 #[.val (.ref x0)] [] := by first | (simp [entryFrame, mkF, argsToLocals, Value.category]; done) | rfl
theorem d_jdk_71_method_1_0 : decode jdk_71_method_1_code 0 = .ok (.aload_n 0, 1) := by decide +kernel
theorem d_jdk_71_method_1_1 : decode jdk_71_method_1_code 1 = .ok (.invokespecial 1, 3) := by decide +kernel
theorem d_jdk_71_method_1_4 : decode jdk_71_method_1_code 4 = .ok (.return_, 1) := by decide +kernel
theorem pn_11 : plainName "java/util/AbstractMap" = true := by first | (simp [plainName, overriddenIn]; done) | decide +kernel
theorem d_jdk_2729_method_1_1 : decode jdk_2729_method_1_code 1 = .ok (.invokespecial 1, 3) := by decide +kernel
theorem d_jdk_2729_method_1_4 : decode jdk_2729_method_1_code 4 = .ok (.aload_n 0, 1) := by decide +kernel
theorem d_jdk_2729_method_1_5 : decode jdk_2729_method_1_code 5 = .ok (.iconst 0, 1) := by decide +kernel
theorem d_jdk_2729_method_1_6 : decode jdk_2729_method_1_code 6 = .ok (.putfield 7, 3) := by decide +kernel
theorem d_jdk_2729_method_1_9 : decode jdk_2729_method_1_code 9 = .ok (.aload_n 0, 1) := by decide +kernel
theorem d_jdk_2729_method_1_10 : decode jdk_2729_method_1_code 10 = .ok (.iconst 0, 1) := by decide +kernel
theorem d_jdk_2729_method_1_11 : decode jdk_2729_method_1_code 11 = .ok (.putfield 13, 3) := by decide +kernel
theorem d_jdk_2729_method_1_14 : decode jdk_2729_method_1_code 14 = .ok (.aload_n 0, 1) := by decide +kernel
theorem d_jdk_2729_method_1_15 : decode jdk_2729_method_1_code 15 = .ok (.aconst_null, 1) := by decide +kernel
theorem d_jdk_2729_method_1_16 : decode jdk_2729_method_1_code 16 = .ok (.putfield 16, 3) := by decide +kernel
theorem d_jdk_2729_method_1_19 : decode jdk_2729_method_1_code 19 = .ok (.return_, 1) := by decide +kernel
theorem pn_12 : plainName "java/util/TreeMap" = true := by first | (simp [plainName, overriddenIn]; done) | decide +kernel
theorem d_prog_22_method_1_9 : decode prog_22_method_1_code 9 = .ok (.invokespecial 9, 3) := by decide +kernel
theorem d_prog_22_method_1_12 : decode prog_22_method_1_code 12 = .ok (.putfield 10, 3) := by decide +kernel
theorem d_prog_22_method_1_15 : decode prog_22_method_1_code 15 = .ok (.aload_n 0, 1) := by decide +kernel
theorem d_prog_22_method_1_16 : decode prog_22_method_1_code 16 = .ok (.aload_n 1, 1) := by decide +kernel
theorem d_prog_22_method_1_17 : decode prog_22_method_1_code 17 = .ok (.putfield 16, 3) := by decide +kernel
theorem d_prog_22_method_1_20 : decode prog_22_method_1_code 20 = .ok (.return_, 1) := by decide +kernel
theorem pd_20 : parseMethodDescriptor "(Ljava/lang/String;)V" = some ⟨[(.object "java/lang/String")], none⟩ := by decide +kernel
theorem ef_rc38_init (m : MethodId) (x0 : Addr) (x1 : Addr) (x2 : Int64) : entryFrame m #[(.ref x0), (.ref x1), (.long x2)] 4 = mkF m 0 #[.val (.ref x0), .val (.ref x1), .val (.long x2), .second] [] := by first | (simp [entryFrame, mkF, argsToLocals, Value.category]; done) | rfl
theorem d_prog_29_method_1_0 : decode prog_29_method_1_code 0 = .ok (.aload_n 0, 1) := by decide +kernel
theorem ef_rc39_init (m : MethodId) (x0 : Addr) : entryFrame m #[(.ref x0)] 1 = mkF m 0 #[.val (.ref x0)] [] := by first | (simp [entryFrame, mkF, argsToLocals, Value.category]; done) | rfl
theorem d_jdk_30_method_1_0 : decode jdk_30_method_1_code 0 = .ok (.aload_n 0, 1) := by decide +kernel
theorem d_jdk_30_method_1_1 : decode jdk_30_method_1_code 1 = .ok (.invokespecial 1, 3) := by decide +kernel
theorem d_jdk_30_method_1_4 : decode jdk_30_method_1_code 4 = .ok (.return_, 1) := by decide +kernel
theorem pn_13 : plainName "java/lang/Record" = true := by first | (simp [plainName, overriddenIn]; done) | decide +kernel
theorem d_prog_29_method_1_1 : decode prog_29_method_1_code 1 = .ok (.invokespecial 1, 3) := by decide +kernel
theorem d_prog_29_method_1_4 : decode prog_29_method_1_code 4 = .ok (.aload_n 1, 1) := by decide +kernel
theorem d_prog_29_method_1_5 : decode prog_29_method_1_code 5 = .ok (.ldc 7, 2) := by decide +kernel
theorem ef_rc40_requireNonNull (m : MethodId) (x0 : Addr) (x1 : Addr) : entryFrame m #[(.ref x0), (.ref x1)] 2 = mkF m 0 #[.val (.ref x0), .val (.ref x1)] [] := by first | (simp [entryFrame, mkF, argsToLocals, Value.category]; done) | rfl
theorem d_jdk_31_method_11_0 : decode jdk_31_method_11_code 0 = .ok (.aload_n 0, 1) := by decide +kernel
theorem d_jdk_31_method_11_1 : decode jdk_31_method_11_code 1 = .ok (.ifnonnull 12, 3) := by decide +kernel
theorem d_jdk_31_method_11_13 : decode jdk_31_method_11_code 13 = .ok (.aload_n 0, 1) := by decide +kernel
theorem d_jdk_31_method_11_14 : decode jdk_31_method_11_code 14 = .ok (.areturn, 1) := by decide +kernel
theorem pd_21 : parseMethodDescriptor "(Ljava/lang/Object;Ljava/lang/String;)Ljava/lang/Object;" = some ⟨[(.object "java/lang/Object"), (.object "java/lang/String")], some (.object "java/lang/Object")⟩ := by decide +kernel
theorem d_prog_29_method_1_7 : decode prog_29_method_1_code 7 = .ok (.invokestatic 9, 3) := by decide +kernel
theorem d_prog_29_method_1_10 : decode prog_29_method_1_code 10 = .ok (.pop, 1) := by decide +kernel
theorem d_prog_29_method_1_11 : decode prog_29_method_1_code 11 = .ok (.aload_n 1, 1) := by decide +kernel
theorem d_prog_29_method_1_12 : decode prog_29_method_1_code 12 = .ok (.ldc 15, 2) := by decide +kernel
theorem ef_rc41_checkNotEmpty (m : MethodId) (x0 : Addr) (x1 : Addr) : entryFrame m #[(.ref x0), (.ref x1)] 2 = mkF m 0 #[.val (.ref x0), .val (.ref x1)] [] := by first | (simp [entryFrame, mkF, argsToLocals, Value.category]; done) | rfl
theorem d_prog_27_method_3_0 : decode prog_27_method_3_code 0 = .ok (.aload_n 0, 1) := by decide +kernel
theorem ef_rc42_isEmpty (m : MethodId) (x0 : Addr) : entryFrame m #[(.ref x0)] 1 = mkF m 0 #[.val (.ref x0)] [] := by first | (simp [entryFrame, mkF, argsToLocals, Value.category]; done) | rfl
theorem d_jdk_42_method_55_0 : decode jdk_42_method_55_code 0 = .ok (.aload_n 0, 1) := by decide +kernel
theorem d_jdk_42_method_55_1 : decode jdk_42_method_55_code 1 = .ok (.getfield 9, 3) := by decide +kernel
theorem d_jdk_42_method_55_4 : decode jdk_42_method_55_code 4 = .ok (.arraylength, 1) := by decide +kernel
theorem d_jdk_42_method_55_5 : decode jdk_42_method_55_code 5 = .ok (.ifCond .ne 7, 3) := by decide +kernel
theorem d_jdk_42_method_55_12 : decode jdk_42_method_55_code 12 = .ok (.iconst 0, 1) := by decide +kernel
theorem d_jdk_42_method_55_13 : decode jdk_42_method_55_code 13 = .ok (.ireturn, 1) := by decide +kernel
theorem d_prog_27_method_3_1 : decode prog_27_method_3_code 1 = .ok (.invokevirtual 29, 3) := by decide +kernel
theorem d_prog_27_method_3_4 : decode prog_27_method_3_code 4 = .ok (.ifCond .eq 11, 3) := by decide +kernel
theorem d_prog_27_method_3_15 : decode prog_27_method_3_code 15 = .ok (.return_, 1) := by decide +kernel
theorem pn_14 : plainName "com/example/causal_delivery/causaldelivery/MemberIdentifier" = true := by first | (simp [plainName, overriddenIn]; done) | decide +kernel
theorem pd_22 : parseMethodDescriptor "(Ljava/lang/String;Ljava/lang/String;)V" = some ⟨[(.object "java/lang/String"), (.object "java/lang/String")], none⟩ := by decide +kernel
theorem d_prog_29_method_1_14 : decode prog_29_method_1_code 14 = .ok (.invokestatic 17, 3) := by decide +kernel
theorem d_prog_29_method_1_17 : decode prog_29_method_1_code 17 = .ok (.lload_n 2, 1) := by decide +kernel
theorem d_prog_29_method_1_18 : decode prog_29_method_1_code 18 = .ok (.lconst 1, 1) := by decide +kernel
theorem d_prog_29_method_1_19 : decode prog_29_method_1_code 19 = .ok (.lcmp, 1) := by decide +kernel
theorem d_prog_29_method_1_20 : decode prog_29_method_1_code 20 = .ok (.ifCond .ge 17, 3) := by decide +kernel
theorem d_prog_29_method_1_37 : decode prog_29_method_1_code 37 = .ok (.aload_n 0, 1) := by decide +kernel
theorem d_prog_29_method_1_38 : decode prog_29_method_1_code 38 = .ok (.aload_n 1, 1) := by decide +kernel
theorem d_prog_29_method_1_39 : decode prog_29_method_1_code 39 = .ok (.putfield 32, 3) := by decide +kernel
theorem d_prog_29_method_1_42 : decode prog_29_method_1_code 42 = .ok (.aload_n 0, 1) := by decide +kernel
theorem d_prog_29_method_1_43 : decode prog_29_method_1_code 43 = .ok (.lload_n 2, 1) := by decide +kernel
theorem d_prog_29_method_1_44 : decode prog_29_method_1_code 44 = .ok (.putfield 37, 3) := by decide +kernel
theorem d_prog_29_method_1_47 : decode prog_29_method_1_code 47 = .ok (.return_, 1) := by decide +kernel
theorem pd_23 : parseMethodDescriptor "(Ljava/lang/String;J)V" = some ⟨[(.object "java/lang/String"), .long], none⟩ := by decide +kernel
theorem ef_rc43_empty (m : MethodId)  : entryFrame m #[] 0 = mkF m 0 #[] [] := by first | (simp [entryFrame, mkF, argsToLocals, Value.category]; done) | rfl
theorem d_jdk_2650_method_2_0 : decode jdk_2650_method_2_code 0 = .ok (.getstatic 17, 3) := by decide +kernel
theorem d_jdk_2650_method_2_3 : decode jdk_2650_method_2_code 3 = .ok (.areturn, 1) := by decide +kernel
theorem pn_15 : plainName "java/util/OptionalLong" = true := by first | (simp [plainName, overriddenIn]; done) | decide +kernel
theorem pd_24 : parseMethodDescriptor "()Ljava/util/OptionalLong;" = some ⟨[], some (.object "java/util/OptionalLong")⟩ := by decide +kernel
theorem ef_rc44_init (m : MethodId) (x0 : Addr) (x1 : Addr) (x2 : Addr) : entryFrame m #[(.ref x0), (.ref x1), (.ref x2)] 3 = mkF m 0 #[.val (.ref x0), .val (.ref x1), .val (.ref x2)] [] := by first | (simp [entryFrame, mkF, argsToLocals, Value.category]; done) | rfl
theorem d_prog_36_method_1_0 : decode prog_36_method_1_code 0 = .ok (.aload_n 0, 1) := by decide +kernel
theorem d_prog_36_method_1_1 : decode prog_36_method_1_code 1 = .ok (.invokespecial 1, 3) := by decide +kernel
theorem d_prog_36_method_1_4 : decode prog_36_method_1_code 4 = .ok (.aload_n 1, 1) := by decide +kernel
theorem d_prog_36_method_1_5 : decode prog_36_method_1_code 5 = .ok (.ldc 7, 2) := by decide +kernel
theorem d_prog_36_method_1_7 : decode prog_36_method_1_code 7 = .ok (.invokestatic 9, 3) := by decide +kernel
theorem d_prog_36_method_1_10 : decode prog_36_method_1_code 10 = .ok (.pop, 1) := by decide +kernel
theorem d_prog_36_method_1_11 : decode prog_36_method_1_code 11 = .ok (.aload_n 2, 1) := by decide +kernel
theorem ef_rc45_checkDeadline (m : MethodId) (x0 : Addr) : entryFrame m #[(.ref x0)] 1 = mkF m 0 #[.val (.ref x0)] [] := by first | (simp [entryFrame, mkF, argsToLocals, Value.category]; done) | rfl
theorem d_prog_36_method_2_0 : decode prog_36_method_2_code 0 = .ok (.aload_n 0, 1) := by decide +kernel
theorem d_prog_36_method_2_1 : decode prog_36_method_2_code 1 = .ok (.ldc 28, 2) := by decide +kernel
theorem ef_rc46_requireNonNull (m : MethodId) (x0 : Addr) (x1 : Addr) : entryFrame m #[(.ref x0), (.ref x1)] 2 = mkF m 0 #[.val (.ref x0), .val (.ref x1)] [] := by first | (simp [entryFrame, mkF, argsToLocals, Value.category]; done) | rfl
theorem d_prog_36_method_2_3 : decode prog_36_method_2_code 3 = .ok (.invokestatic 9, 3) := by decide +kernel
theorem d_prog_36_method_2_6 : decode prog_36_method_2_code 6 = .ok (.pop, 1) := by decide +kernel
theorem d_prog_36_method_2_7 : decode prog_36_method_2_code 7 = .ok (.aload_n 0, 1) := by decide +kernel
theorem ef_rc47_isPresent (m : MethodId) (x0 : Addr) : entryFrame m #[(.ref x0)] 1 = mkF m 0 #[.val (.ref x0)] [] := by first | (simp [entryFrame, mkF, argsToLocals, Value.category]; done) | rfl
theorem d_jdk_2650_method_6_0 : decode jdk_2650_method_6_code 0 = .ok (.aload_n 0, 1) := by decide +kernel
theorem d_jdk_2650_method_6_1 : decode jdk_2650_method_6_code 1 = .ok (.getfield 7, 3) := by decide +kernel
theorem d_jdk_2650_method_6_4 : decode jdk_2650_method_6_code 4 = .ok (.ireturn, 1) := by decide +kernel
theorem d_prog_36_method_2_8 : decode prog_36_method_2_code 8 = .ok (.invokevirtual 29, 3) := by decide +kernel
theorem d_prog_36_method_2_11 : decode prog_36_method_2_code 11 = .ok (.ifCond .eq 29, 3) := by decide +kernel
theorem d_prog_36_method_2_40 : decode prog_36_method_2_code 40 = .ok (.return_, 1) := by decide +kernel
theorem pd_25 : parseMethodDescriptor "(Ljava/util/OptionalLong;)V" = some ⟨[(.object "java/util/OptionalLong")], none⟩ := by decide +kernel
theorem d_prog_36_method_1_12 : decode prog_36_method_1_code 12 = .ok (.invokestatic 15, 3) := by decide +kernel
theorem d_prog_36_method_1_15 : decode prog_36_method_1_code 15 = .ok (.aload_n 0, 1) := by decide +kernel
theorem d_prog_36_method_1_16 : decode prog_36_method_1_code 16 = .ok (.aload_n 1, 1) := by decide +kernel
theorem d_prog_36_method_1_17 : decode prog_36_method_1_code 17 = .ok (.putfield 21, 3) := by decide +kernel
theorem d_prog_36_method_1_20 : decode prog_36_method_1_code 20 = .ok (.aload_n 0, 1) := by decide +kernel
theorem d_prog_36_method_1_21 : decode prog_36_method_1_code 21 = .ok (.aload_n 2, 1) := by decide +kernel
theorem d_prog_36_method_1_22 : decode prog_36_method_1_code 22 = .ok (.putfield 24, 3) := by decide +kernel
theorem d_prog_36_method_1_25 : decode prog_36_method_1_code 25 = .ok (.return_, 1) := by decide +kernel
theorem pd_26 : parseMethodDescriptor "(Lcom/example/causal_delivery/causaldelivery/MessageId;Ljava/util/OptionalLong;)V" = some ⟨[(.object "com/example/causal_delivery/causaldelivery/MessageId"), (.object "java/util/OptionalLong")], none⟩ := by decide +kernel
theorem ef_rc48_isNamed (m : MethodId) (x0 : Addr) : entryFrame m #[(.ref x0)] 1 = mkF m 0 #[.val (.ref x0)] [] := by first | (simp [entryFrame, mkF, argsToLocals, Value.category]; done) | rfl
theorem pd_27 : parseMethodDescriptor "(Lcom/example/causal_delivery/causaldelivery/KnownOrigin;ILcom/example/causal_delivery/causaldelivery/Predecessor;Lcom/example/causal_delivery/causaldelivery/Predecessor;JJZI)I" = some ⟨[(.object "com/example/causal_delivery/causaldelivery/KnownOrigin"), .int, (.object "com/example/causal_delivery/causaldelivery/Predecessor"), (.object "com/example/causal_delivery/causaldelivery/Predecessor"), .long, .long, .boolean, .int], some .int⟩ := by decide +kernel
theorem wq {Z : State} {a0 : Array Value} (hw : ∀ d ∈ tables_1, d.before a0 Z = true) (i : Nat) {d : Jvm.Cond} (h : tables_1[i]? = some d) : d.before a0 Z = true := hw d (List.mem_of_getElem? h)
abbrev Met (l : Launch) (y : MethodName) (bytes : ByteArray) (ml : Nat) (rt : Option FieldType) (ws : List Jvm.Cond) (rm : Room) (args : Array Value) (Z : State) (h0 : Heap) (Q : Option Value → Heap → List Loc → Prop) : Prop :=
  MetFree l y (head1 (Jvm.Cond.code y bytes ml rt :: ws) rm) (fun a U => a = args ∧ Z.Warmed39 U.vm ∧ U.heap = h0) (fun _ _ _ _ _ => True) (fun _ U o U' => ∃ v L, o = .returned v ∧ Q v U'.heap L ∧ FrameEnd U o U' L rm.cells rm.slots)
abbrev MetW (l : Launch) (y : MethodName) (bytes : ByteArray) (ml : Nat) (rt : Option FieldType) (ws : List Jvm.Cond) (rm : Room) (args : Array Value) (Z : State) (h0 : Heap) (Q : Option Value → Heap → List Loc → Prop) : Prop :=
  MetFree l y (head1 (Jvm.Cond.code y bytes ml rt :: ws) rm) (fun a U => a = args ∧ Z.Warmed39 U.vm ∧ U.heap = h0) (fun _ _ _ _ _ => True) (fun _ U o U' => ∃ v L, o = .returned v ∧ Q v U'.heap L ∧ ReturnedEndW U o U' L rm.cells rm.slots)
abbrev Go (p : Program) (e : Env) (below : List Frame) (s₁ : State) (f₀ : JFrame) (T : State) (f : JFrame) : Prop := ∀ t, Steps p.tables e below (T.setTop f) t → Steps p.tables e below (s₁.setTop f₀) t
abbrev nString_0 : String := "java/lang/String"
abbrev nOption_1 : String := "java/util/OptionalLong"
abbrev nOption_2 : String := "Ljava/util/OptionalLong;"
abbrev nKnownO_3 : String := "com/example/causal_delivery/causaldelivery/KnownOrigin"
abbrev nPredec_4 : String := "com/example/causal_delivery/causaldelivery/Predecessor"
abbrev nMessag_5 : String := "Lcom/example/causal_delivery/causaldelivery/MessageId;"
abbrev nMessag_6 : String := "com/example/causal_delivery/causaldelivery/MessageId"
abbrev nPredec_7 : String := "Lcom/example/causal_delivery/causaldelivery/Predecessor;"
abbrev nList_8 : String := "Ljava/util/List;"
abbrev nArrayL_9 : String := "java/util/ArrayList"
abbrev nObject_10 : String := "[Ljava/lang/Object;"
abbrev nAbstra_11 : String := "java/util/AbstractList"
abbrev nObject_12 : String := "java/lang/Object"
abbrev nKnownO_13 : String := "com/example/causal_delivery/causaldelivery/KnownOriginIsNamedPinLaw"
abbrev nTreeMa_14 : String := "java/util/TreeMap"
abbrev my_0 : MethodName := (⟨"java/lang/Math", "max", "(JJ)J"⟩ : MethodName)
abbrev my_1 : MethodName := (⟨"com/example/causal_delivery/causaldelivery/Predecessor", "id", "()Lcom/example/causal_delivery/causaldelivery/MessageId;"⟩ : MethodName)
abbrev my_2 : MethodName := (⟨"com/example/causal_delivery/causaldelivery/MessageId", "seq", "()J"⟩ : MethodName)
abbrev my_3 : MethodName := (⟨"com/example/causal_delivery/causaldelivery/KnownOrigin", "name", "(Lcom/example/causal_delivery/causaldelivery/Predecessor;)Lcom/example/causal_delivery/causaldelivery/Predecessor;"⟩ : MethodName)
abbrev my_4 : MethodName := (⟨"com/example/causal_delivery/causaldelivery/KnownOriginIsNamedPinLaw", "step", "(Lcom/example/causal_delivery/causaldelivery/KnownOrigin;ILcom/example/causal_delivery/causaldelivery/Predecessor;Lcom/example/causal_delivery/causaldelivery/Predecessor;JJZI)I"⟩ : MethodName)
abbrev my_5 : MethodName := (⟨"com/example/causal_delivery/causaldelivery/KnownOrigin", "unname", "(J)Lcom/example/causal_delivery/causaldelivery/Predecessor;"⟩ : MethodName)
abbrev my_6 : MethodName := (⟨"java/util/AbstractCollection", "<init>", "()V"⟩ : MethodName)
abbrev my_7 : MethodName := (⟨"java/util/AbstractList", "<init>", "()V"⟩ : MethodName)
abbrev my_8 : MethodName := (⟨"java/util/ArrayList", "<init>", "(I)V"⟩ : MethodName)
abbrev my_9 : MethodName := (⟨"java/util/ArrayList", "size", "()I"⟩ : MethodName)
abbrev my_10 : MethodName := (⟨"java/util/ArrayList", "add", "(Ljava/lang/Object;[Ljava/lang/Object;I)V"⟩ : MethodName)
abbrev my_11 : MethodName := (⟨"java/util/ArrayList", "add", "(Ljava/lang/Object;)Z"⟩ : MethodName)
abbrev my_12 : MethodName := (⟨"java/util/List", "size", "()I"⟩ : MethodName)
abbrev my_13 : MethodName := (⟨"java/util/List", "add", "(Ljava/lang/Object;)Z"⟩ : MethodName)
abbrev my_14 : MethodName := (⟨"jdk/internal/util/Preconditions", "checkIndex", "(IILjava/util/function/BiFunction;)I"⟩ : MethodName)
abbrev my_15 : MethodName := (⟨"java/util/Objects", "checkIndex", "(II)I"⟩ : MethodName)
abbrev my_16 : MethodName := (⟨"java/util/ArrayList", "elementData", "(I)Ljava/lang/Object;"⟩ : MethodName)
abbrev my_17 : MethodName := (⟨"java/util/ArrayList", "get", "(I)Ljava/lang/Object;"⟩ : MethodName)
abbrev my_18 : MethodName := (⟨"java/util/ArrayList", "set", "(ILjava/lang/Object;)Ljava/lang/Object;"⟩ : MethodName)
abbrev my_19 : MethodName := (⟨"java/util/List", "get", "(I)Ljava/lang/Object;"⟩ : MethodName)
abbrev my_20 : MethodName := (⟨"java/util/List", "set", "(ILjava/lang/Object;)Ljava/lang/Object;"⟩ : MethodName)
abbrev my_21 : MethodName := (⟨"java/util/ArrayList", "fastRemove", "([Ljava/lang/Object;I)V"⟩ : MethodName)
abbrev my_22 : MethodName := (⟨"java/util/ArrayList", "remove", "(I)Ljava/lang/Object;"⟩ : MethodName)
abbrev my_23 : MethodName := (⟨"java/util/ArrayList", "isEmpty", "()Z"⟩ : MethodName)
abbrev my_24 : MethodName := (⟨"java/util/List", "remove", "(I)Ljava/lang/Object;"⟩ : MethodName)
abbrev my_25 : MethodName := (⟨"java/util/List", "isEmpty", "()Z"⟩ : MethodName)
abbrev my_26 : MethodName := (⟨"com/example/causal_delivery/causaldelivery/KnownOrigin", "isNamed", "()Z"⟩ : MethodName)
abbrev my_27 : MethodName := (⟨"java/lang/StringLatin1", "canEncode", "(C)Z"⟩ : MethodName)
abbrev my_28 : MethodName := (⟨"java/lang/StringLatin1", "toBytes", "(C)[B"⟩ : MethodName)
abbrev my_29 : MethodName := (⟨"java/lang/String", "<init>", "([BB)V"⟩ : MethodName)
abbrev my_30 : MethodName := (⟨"java/lang/String", "valueOf", "(C)Ljava/lang/String;"⟩ : MethodName)
abbrev my_31 : MethodName := (⟨"java/util/AbstractMap", "<init>", "()V"⟩ : MethodName)
abbrev my_32 : MethodName := (⟨"java/util/TreeMap", "<init>", "()V"⟩ : MethodName)
abbrev my_33 : MethodName := (⟨"com/example/causal_delivery/causaldelivery/KnownOrigin", "<init>", "(Ljava/lang/String;)V"⟩ : MethodName)
abbrev my_34 : MethodName := (⟨"java/lang/Record", "<init>", "()V"⟩ : MethodName)
abbrev my_35 : MethodName := (⟨"java/util/Objects", "requireNonNull", "(Ljava/lang/Object;Ljava/lang/String;)Ljava/lang/Object;"⟩ : MethodName)
abbrev my_36 : MethodName := (⟨"java/lang/String", "isEmpty", "()Z"⟩ : MethodName)
abbrev my_37 : MethodName := (⟨"com/example/causal_delivery/causaldelivery/MemberIdentifier", "checkNotEmpty", "(Ljava/lang/String;Ljava/lang/String;)V"⟩ : MethodName)
abbrev my_38 : MethodName := (⟨"com/example/causal_delivery/causaldelivery/MessageId", "<init>", "(Ljava/lang/String;J)V"⟩ : MethodName)
abbrev my_39 : MethodName := (⟨"java/util/OptionalLong", "empty", "()Ljava/util/OptionalLong;"⟩ : MethodName)
abbrev my_40 : MethodName := (⟨"java/util/OptionalLong", "isPresent", "()Z"⟩ : MethodName)
abbrev my_41 : MethodName := (⟨"com/example/causal_delivery/causaldelivery/Predecessor", "checkDeadline", "(Ljava/util/OptionalLong;)V"⟩ : MethodName)
abbrev my_42 : MethodName := (⟨"com/example/causal_delivery/causaldelivery/Predecessor", "<init>", "(Lcom/example/causal_delivery/causaldelivery/MessageId;Ljava/util/OptionalLong;)V"⟩ : MethodName)
theorem own_wS {Z : State} {a0 : Array Value} (hw : ∀ d ∈ tables_1, d.before a0 Z = true) : ∀ a ∈ Bundle.stringAtoms, a.before a0 Z = true := by
  intro a ha
  simp only [Bundle.stringAtoms, List.mem_cons, List.not_mem_nil, or_false] at ha
  rcases ha with rfl | rfl | rfl | rfl | rfl | rfl | rfl
  · exact (wq hw 2 rfl)
  · exact (wq hw 10 rfl)
  · exact (wq hw 14 rfl)
  · exact (wq hw 23 rfl)
  · exact (wq hw 25 rfl)
  · exact (wq hw 77 rfl)
  · exact (wq hw 78 rfl)
def SB (Z : State) (cs : Int32) (aE : Addr) : Prop := Sta Z Z.heap nString_0 "COMPACT_STRINGS" "Z" (.int cs) ∧ (¬ cs = (0 : Int32)) ∧ Sta Z Z.heap nOption_1 "EMPTY" nOption_2 (.ref aE) ∧ Exa Z Z.heap aE nOption_1 ∧ Fld Z Z.heap aE nOption_1 "isPresent" "Z" (.int (0 : Int32))
theorem own_sb {s : State} {args : Array Value} (w0 : (Cond.initializedFor nString_0 "COMPACT_STRINGS" "Z").before args s = true) (w1 : (Cond.isInt (.static nString_0 "COMPACT_STRINGS" "Z")).before args s = true) (w2 : (Cond.not (.eq (.static nString_0 "COMPACT_STRINGS" "Z") (.int 0))).before args s = true)
    (w10 : (Cond.initializedFor nOption_1 "EMPTY" nOption_2).before args s = true) (w11 : (Cond.exactly (.static nOption_1 "EMPTY" nOption_2) nOption_1).before args s = true) (w12 : (Cond.eq (.field (.static nOption_1 "EMPTY" nOption_2) nOption_1 "isPresent" "Z") (.int 0)).before args s = true) : ∃ cs aE, SB s cs aE := by
  obtain ⟨cs, ec⟩ := is_v (Cond.before_iff.mp w1)
  obtain ⟨aE, ee⟩ := exa_v (Cond.before_iff.mp w11)
  refine ⟨cs, aE, Sta.start ec (Or.inl w0), fun q => ?_, Sta.start ee (Or.inl w10), Exa.start ee (Cond.before_iff.mp w11), Fld.start ((fld_at ee).symm.trans (Cond.eq_int w12 rfl))⟩
  subst q
  have h := Cond.before_iff.mp w2
  have e := eq_i (a := .static nString_0 "COMPACT_STRINGS" "Z") (b := .int 0) ec (Term.int_eval (0 : Int32)) rfl
  have k : ((Cond.eq (.static nString_0 "COMPACT_STRINGS" "Z") (.int 0)).value args s none s []).map (!·) = some true := h
  rw [e] at k
  simp at k
def own_max (a b : Int64) : Int64 := if a < b then b else a
theorem own_max_ge (b : Int64) : ¬ own_max 1 b < 1 := by
  unfold own_max
  split
  · rename_i h
    rw [Int64.lt_iff_toInt_lt] at h ⊢
    omega
  · decide
def own_b (st : Int32) : Int32 := if st = 0 then 0 else 1
theorem own_b0 {st : Int32} (h : st = 0) : own_b st = 0 := by simp [own_b, h]
theorem own_b1 {st : Int32} (h : ¬ st = 0) : own_b st = 1 := by simp [own_b, h]
def QJ (r : Int64) (h0 : Heap) (n0 : Nat) (v : Option Value) (h : Heap) (L : List Loc) : Prop := v = some (.long r) ∧ Fr n0 L ∧ h = h0
def QI (r : Int32) (h0 : Heap) (n0 : Nat) (v : Option Value) (h : Heap) (L : List Loc) : Prop := v = some (.int r) ∧ Fr n0 L ∧ h = h0
def Q0 (n0 : Nat) (v : Option Value) (h : Heap) (L : List Loc) : Prop := v = some (.int 1) ∧ Fr n0 L
def FB (Z : State) (n0 : Nat) (h : Heap) (k pA mA : Addr) (sa : Int64) (pB mB : Addr) (sb : Int64) : Prop := Exa Z h k nKnownO_3 ∧ n0 ≤ k ∧ Exa Z h pA nPredec_4 ∧ Fld Z h pA nPredec_4 "id" nMessag_5 (.ref mA) ∧ Exa Z h mA nMessag_6 ∧ Fld Z h mA nMessag_6 "seq" "J" (.long sa) ∧ Exa Z h pB nPredec_4 ∧ Fld Z h pB nPredec_4 "id" nMessag_5 (.ref mB) ∧ Exa Z h mB nMessag_6 ∧ Fld Z h mB nMessag_6 "seq" "J" (.long sb)
def KS0 (Z : State) (h : Heap) (k : Addr) : Prop := ∃ q : Int64, Fld Z h k nKnownO_3 "named" nPredec_7 .null ∧ Fld Z h k nKnownO_3 "namedSeq" "J" (.long q) ∧ Fld Z h k nKnownO_3 "alsoNamed" nList_8 .null
def KS1 (Z : State) (h : Heap) (k p : Addr) (s : Int64) : Prop := Fld Z h k nKnownO_3 "named" nPredec_7 (.ref p) ∧ Fld Z h k nKnownO_3 "namedSeq" "J" (.long s) ∧ Fld Z h k nKnownO_3 "alsoNamed" nList_8 .null
def KS2 (Z : State) (n0 : Nat) (h : Heap) (k p : Addr) (s : Int64) (q : Addr) : Prop := ∃ (L E : Addr) (ce : ClassId) (mc : Int32), Fld Z h k nKnownO_3 "named" nPredec_7 (.ref p) ∧ Fld Z h k nKnownO_3 "namedSeq" "J" (.long s) ∧ Fld Z h k nKnownO_3 "alsoNamed" nList_8 (.ref L) ∧ Exa Z h L nArrayL_9 ∧ Fld Z h L nArrayL_9 "size" "I" (.int (1 : Int32)) ∧ Fld Z h L nArrayL_9 "elementData" nObject_10 (.ref E) ∧ Fld Z h L nAbstra_11 "modCount" "I" (.int mc) ∧ Arv Z h E ce (.object nObject_12) (1 : Int32) [(.ref q)] .null ∧ Ovr Z ce nObject_12 ∧ n0 ≤ L ∧ n0 ≤ E
def InvN (Z : State) (n0 : Nat) (h : Heap) (k pA mA : Addr) (sa : Int64) (pB mB : Addr) (sb : Int64) (st : Int32) : Prop := FB Z n0 h k pA mA sa pB mB sb ∧ ((st = 0 ∧ KS0 Z h k) ∨ (st = 1 ∧ KS1 Z h k pA sa) ∨ (st = 2 ∧ KS1 Z h k pB sb) ∨ (st = 3 ∧ KS2 Z n0 h k pA sa pB) ∨ (st = 3 ∧ KS2 Z n0 h k pB sb pA))
def InvE (Z : State) (n0 : Nat) (h : Heap) (k pA mA : Addr) (sa : Int64) (pB mB : Addr) (sb : Int64) (st : Int32) : Prop := FB Z n0 h k pA mA sa pB mB sb ∧ ((st = 0 ∧ KS0 Z h k) ∨ (st = 3 ∧ KS1 Z h k pA sa) ∨ (st = 3 ∧ KS1 Z h k pB sb))
def QSN (Z : State) (k pA mA : Addr) (sa : Int64) (pB mB : Addr) (sb : Int64) (h0 : Heap) (n0 : Nat) (v : Option Value) (h : Heap) (L : List Loc) : Prop := ∃ st : Int32, v = some (.int st) ∧ Fr n0 L ∧ h0.size ≤ h.size ∧ Old Z n0 h ∧ InvN Z n0 h k pA mA sa pB mB sb st
def QSE (Z : State) (k pA mA : Addr) (sa : Int64) (pB mB : Addr) (sb : Int64) (h0 : Heap) (n0 : Nat) (v : Option Value) (h : Heap) (L : List Loc) : Prop := ∃ st : Int32, v = some (.int st) ∧ Fr n0 L ∧ h0.size ≤ h.size ∧ Old Z n0 h ∧ InvE Z n0 h k pA mA sa pB mB sb st
set_option maxRecDepth 65536 in
set_option maxHeartbeats 40000000 in
theorem rm_max (l : Launch) (Z : State) (a0 : Array Value) (hw : ∀ d ∈ tables_1, d.before a0 Z = true) (ws : List Jvm.Cond) (a b : Int64) (h0 : Heap) (n0 : Nat) :
    Met l my_0 jdk_29_method_66_code 4 (some .long) ws ({ frames := 0, cells := 0, slots := 0, locals := 0 } : Room) #[(.long a), (.long b)] Z h0 (QJ (own_max a b) h0 n0) := by
  refine MetFree.of_bodySF (Jvm.Free.JP.mathPlain rfl (by decide +kernel)) hisR ?_
  intro p e s m args below meth c s₁ Bd hml0 hP hK
  obtain ⟨rfl, hZ, hh⟩ := hP
  have hx := Bd.exec
  have hby := Bd.bytes
  have hml : c.maxLocals = 4 := hml0
  have hown : s.vm.findClass "java/lang/Math" = some m.cls := findClass_of_methodNamed Bd.named
  have hnm := (name_of_methodNamed Bd.named Bd.method).1
  have X0 : Stand p l e ({ frames := 0, cells := 0, slots := 0, locals := 0 } : Room) s m #[(.long a), (.long b)] below meth c s₁ [] 0 0 := Stand.of_body Bd
  have e0 : s₁.heap = h0 := by rw [← hh, Bd.state]; rfl
  have N0 := Fr.nil n0
  obtain ⟨f₀, hf₀⟩ : ∃ f, f = entryFrame m #[(.long a), (.long b)] 4 := ⟨_, rfl⟩
  rw [← hf₀]
  have pre0 : Go p e below s₁ f₀ s₁ (mkF m 0 #[.val (.long a), .second, .val (.long b), .second] []) := fun t kk => castTop (hf₀.trans (ef_rm_max m (a) (b))) kk
  have gp1 : Go p e below s₁ f₀ s₁ (mkF m 3 #[.val (.long a), .second, .val (.long b), .second] [(.int (lcmpW a b))]) := fun t kt => pre0 t (by
    refine XS.lloadN X0.here hx rfl (hb hby d_jdk_29_method_66_0) rfl ?_
    refine XS.lloadN X0.here hx rfl (hb hby d_jdk_29_method_66_1) rfl ?_
    refine XS.lcmp X0.here hx rfl (hb hby d_jdk_29_method_66_2) rfl ?_
    exact kt)
  by_cases hm : a < b
  · obtain ⟨fs, hr, hrun, hended, hW, hsame⟩ := X0.leave (v := (some (.long b))) (fun h => by rw [Bd.returns] at h; cases h)
    refine ⟨_, _, gp1 _ ?_, hrun, hended, _, _, rfl, ?_, ⟨_, rfl⟩, hW, hsame.mono (by decide) (by decide)⟩
    · refine XS.ifYes X0.here hx rfl (pc0 := 3) (pc' := 10) rfl (hb hby d_jdk_29_method_66_3) rfl ((if0 _ _).trans (tlt ((lw_lt _ _).mpr hm)).1) (by decide) (by decide) ?_
      refine XS.lloadN X0.here hx rfl (hb hby d_jdk_29_method_66_10) rfl ?_
      exact retOut X0 hx Bd.returns rfl (Or.inr (Or.inl ⟨rfl, rfl, _, rfl⟩)) (hb hby d_jdk_29_method_66_11) hr
    · show QJ (own_max a b) h0 n0 _ s₁.heap _
      rw [e0]
      exact ⟨by rw [own_max, if_pos hm], N0, rfl⟩
  · obtain ⟨fs, hr, hrun, hended, hW, hsame⟩ := X0.leave (v := (some (.long a))) (fun h => by rw [Bd.returns] at h; cases h)
    refine ⟨_, _, gp1 _ ?_, hrun, hended, _, _, rfl, ?_, ⟨_, rfl⟩, hW, hsame.mono (by decide) (by decide)⟩
    · refine XS.ifNo X0.here hx rfl (hb hby d_jdk_29_method_66_3) rfl ((if0 _ _).trans (flt (fun q => hm ((lw_lt _ _).mp q))).1) ?_
      refine XS.lloadN X0.here hx rfl (hb hby d_jdk_29_method_66_6) rfl ?_
      refine XS.goto X0.here hx rfl (pc0 := 7) (pc' := 11) rfl (hb hby d_jdk_29_method_66_7) (by decide) (by decide) ?_
      exact retOut X0 hx Bd.returns rfl (Or.inr (Or.inl ⟨rfl, rfl, _, rfl⟩)) (hb hby d_jdk_29_method_66_11) hr
    · show QJ (own_max a b) h0 n0 _ s₁.heap _
      rw [e0]
      exact ⟨by rw [own_max, if_neg hm], N0, rfl⟩
def Q_rc2_id (Z : State) (aE : Addr) (a1 : Addr) (a2 : Addr) (h0 : Heap) (n0 : Nat) (v : Option Value) (h : Heap) (L : List Loc) : Prop := v = some (.ref a2) ∧ Fr n0 L ∧ h = h0
set_option maxRecDepth 65536 in
set_option maxHeartbeats 40000000 in
theorem rc2_id (l : Launch) (Z : State) (a0 : Array Value) (hw : ∀ d ∈ tables_1, d.before a0 Z = true) (ws : List Jvm.Cond) (cs : Int32) (aE : Addr) (hS : SB Z cs aE) (a1 : Addr) (a2 : Addr) (h0 : Heap) (n0 : Nat) (O0 : Old Z n0 h0) (F_a1_id : Fld Z h0 a1 nPredec_4 "id" nMessag_5 (.ref a2)) :
    Met l my_1 prog_36_method_9_code 1 (some (.object nMessag_6)) ws ({ frames := 0, cells := 0, slots := 0, locals := 0 } : Room) #[(.ref a1)] Z h0 (Q_rc2_id Z aE a1 a2 h0 n0) := by
  refine MetFree.of_bodySF (plainFor_of_name pn_0) hisR ?_
  intro p e s m args below meth c s₁ Bd hml0 hP hK
  obtain ⟨rfl, hZ, hh⟩ := hP
  have hx := Bd.exec
  have hby := Bd.bytes
  have hml : c.maxLocals = 1 := hml0
  have hown : s.vm.findClass nPredec_4 = some m.cls := findClass_of_methodNamed Bd.named
  have hnm := (name_of_methodNamed Bd.named Bd.method).1
  have X0 : Stand p l e ({ frames := 0, cells := 0, slots := 0, locals := 0 } : Room) s m #[(.ref a1)] below meth c s₁ [] 0 0 := Stand.of_body Bd
  have e0 : s₁.heap = h0 := by rw [← hh, Bd.state]; rfl
  have N0 := Fr.nil n0
  obtain ⟨f₀, hf₀⟩ : ∃ f, f = entryFrame m #[(.ref a1)] 1 := ⟨_, rfl⟩
  rw [← hf₀]
  have pre0 : Go p e below s₁ f₀ s₁ (mkF m 0 #[.val (.ref a1)] []) := fun t kk => castTop (hf₀.trans (ef_rc2_id m (a1))) kk
  obtain ⟨T1, X1, e1, st1⟩ := getF X0 hx hZ hown (host := "") (Or.inl (wq hw 119 rfl)) Via.refl e0 F_a1_id (g := (mkF m 1 #[.val (.ref a1)] [(.ref a1)])) rfl rfl (hb hby d_prog_36_method_9_1)
  obtain ⟨fs, hr, hrun, hended, hW, hsame⟩ := X1.leave (v := (some (.ref a2))) (fun h => by rw [Bd.returns] at h; cases h)
  refine ⟨_, _, pre0 _ ?_, hrun, hended, _, _, rfl, ?_, ⟨_, rfl⟩, hW, hsame.mono (by decide) (by decide)⟩
  · refine XS.aloadN X0.here hx rfl (hb hby d_prog_36_method_9_0) rfl rfl ?_
    refine st1 _ ?_
    exact retOut X1 hx Bd.returns rfl (Or.inr (Or.inr (Or.inr (Or.inr ⟨rfl, rfl, rfl⟩)))) (hb hby d_prog_36_method_9_4) hr
  · show Q_rc2_id Z aE a1 a2 h0 n0 _ T1.heap _
    rw [e1]
    exact ⟨rfl, N0, rfl⟩
def Q_rc3_seq (Z : State) (aE : Addr) (a1 : Addr) (j2 : Int64) (h0 : Heap) (n0 : Nat) (v : Option Value) (h : Heap) (L : List Loc) : Prop := v = some (.long j2) ∧ Fr n0 L ∧ h = h0
set_option maxRecDepth 65536 in
set_option maxHeartbeats 40000000 in
theorem rc3_seq (l : Launch) (Z : State) (a0 : Array Value) (hw : ∀ d ∈ tables_1, d.before a0 Z = true) (ws : List Jvm.Cond) (cs : Int32) (aE : Addr) (hS : SB Z cs aE) (a1 : Addr) (j2 : Int64) (h0 : Heap) (n0 : Nat) (O0 : Old Z n0 h0) (F_a1_seq : Fld Z h0 a1 nMessag_6 "seq" "J" (.long j2)) :
    Met l my_2 prog_29_method_8_code 1 (some .long) ws ({ frames := 0, cells := 0, slots := 0, locals := 0 } : Room) #[(.ref a1)] Z h0 (Q_rc3_seq Z aE a1 j2 h0 n0) := by
  refine MetFree.of_bodySF (plainFor_of_name pn_1) hisR ?_
  intro p e s m args below meth c s₁ Bd hml0 hP hK
  obtain ⟨rfl, hZ, hh⟩ := hP
  have hx := Bd.exec
  have hby := Bd.bytes
  have hml : c.maxLocals = 1 := hml0
  have hown : s.vm.findClass nMessag_6 = some m.cls := findClass_of_methodNamed Bd.named
  have hnm := (name_of_methodNamed Bd.named Bd.method).1
  have X0 : Stand p l e ({ frames := 0, cells := 0, slots := 0, locals := 0 } : Room) s m #[(.ref a1)] below meth c s₁ [] 0 0 := Stand.of_body Bd
  have e0 : s₁.heap = h0 := by rw [← hh, Bd.state]; rfl
  have N0 := Fr.nil n0
  obtain ⟨f₀, hf₀⟩ : ∃ f, f = entryFrame m #[(.ref a1)] 1 := ⟨_, rfl⟩
  rw [← hf₀]
  have pre0 : Go p e below s₁ f₀ s₁ (mkF m 0 #[.val (.ref a1)] []) := fun t kk => castTop (hf₀.trans (ef_rc3_seq m (a1))) kk
  obtain ⟨T1, X1, e1, st1⟩ := getF X0 hx hZ hown (host := "") (Or.inl (wq hw 95 rfl)) Via.refl e0 F_a1_seq (g := (mkF m 1 #[.val (.ref a1)] [(.ref a1)])) rfl rfl (hb hby d_prog_29_method_8_1)
  obtain ⟨fs, hr, hrun, hended, hW, hsame⟩ := X1.leave (v := (some (.long j2))) (fun h => by rw [Bd.returns] at h; cases h)
  refine ⟨_, _, pre0 _ ?_, hrun, hended, _, _, rfl, ?_, ⟨_, rfl⟩, hW, hsame.mono (by decide) (by decide)⟩
  · refine XS.aloadN X0.here hx rfl (hb hby d_prog_29_method_8_0) rfl rfl ?_
    refine st1 _ ?_
    exact retOut X1 hx Bd.returns rfl (Or.inr (Or.inl ⟨rfl, rfl, _, rfl⟩)) (hb hby d_prog_29_method_8_4) hr
  · show Q_rc3_seq Z aE a1 j2 h0 n0 _ T1.heap _
    rw [e1]
    exact ⟨rfl, N0, rfl⟩
def Q_rc1_name (Z : State) (aE : Addr) (a1 : Addr) (a2 : Addr) (j3 : Int64) (a4 : Addr) (j5 : Int64) (h0 : Heap) (n0 : Nat) (v : Option Value) (h : Heap) (L : List Loc) : Prop := v = some .null ∧ Fr n0 L ∧ Keep h0 h [a1] ∧ Exa Z h a1 nKnownO_3 ∧ Fld Z h a1 nKnownO_3 "alsoNamed" nList_8 .null ∧ Fld Z h a1 nKnownO_3 "named" nPredec_7 (.ref a2) ∧ Fld Z h a1 nKnownO_3 "namedSeq" "J" (.long j5)
set_option maxRecDepth 65536 in
set_option maxHeartbeats 40000000 in
theorem rc1_name (l : Launch) (Z : State) (a0 : Array Value) (hw : ∀ d ∈ tables_1, d.before a0 Z = true) (ws : List Jvm.Cond) (cs : Int32) (aE : Addr) (hS : SB Z cs aE) (a1 : Addr) (a2 : Addr) (j3 : Int64) (a4 : Addr) (j5 : Int64) (h0 : Heap) (n0 : Nat) (O0 : Old Z n0 h0) (g_a1 : n0 ≤ a1) (E_a1 : Exa Z h0 a1 nKnownO_3) (F_a1_alsoNamed : Fld Z h0 a1 nKnownO_3 "alsoNamed" nList_8 .null) (F_a1_named : Fld Z h0 a1 nKnownO_3 "named" nPredec_7 .null) (F_a1_namedSeq : Fld Z h0 a1 nKnownO_3 "namedSeq" "J" (.long j3)) (E_a2 : Exa Z h0 a2 nPredec_4) (F_a2_id : Fld Z h0 a2 nPredec_4 "id" nMessag_5 (.ref a4)) (E_a4 : Exa Z h0 a4 nMessag_6) (F_a4_seq : Fld Z h0 a4 nMessag_6 "seq" "J" (.long j5)) :
    Met l my_3 prog_22_method_11_code 5 (some (.object nPredec_4)) ws ({ frames := 1, cells := 0, slots := 0, locals := 12 } : Room) #[(.ref a1), (.ref a2)] Z h0 (Q_rc1_name Z aE a1 a2 j3 a4 j5 h0 n0) := by
  refine MetFree.of_bodySF (plainFor_of_name pn_2) hisR ?_
  intro p e s m args below meth c s₁ Bd hml0 hP hK
  obtain ⟨rfl, hZ, hh⟩ := hP
  have hx := Bd.exec
  have hby := Bd.bytes
  have hml : c.maxLocals = 5 := hml0
  have hown : s.vm.findClass nKnownO_3 = some m.cls := findClass_of_methodNamed Bd.named
  have hnm := (name_of_methodNamed Bd.named Bd.method).1
  have X0 : Stand p l e ({ frames := 1, cells := 0, slots := 0, locals := 12 } : Room) s m #[(.ref a1), (.ref a2)] below meth c s₁ [] 0 0 := Stand.of_body Bd
  have e0 : s₁.heap = h0 := by rw [← hh, Bd.state]; rfl
  have N0 := Fr.nil n0
  obtain ⟨f₀, hf₀⟩ : ∃ f, f = entryFrame m #[(.ref a1), (.ref a2)] 5 := ⟨_, rfl⟩
  rw [← hf₀]
  have pre0 : Go p e below s₁ f₀ s₁ (mkF m 0 #[.val (.ref a1), .val (.ref a2), .unset, .unset, .unset] []) := fun t kk => castTop (hf₀.trans (ef_rc1_name m (a1) (a2))) kk
  obtain ⟨cq1, kq1, q1a, q1b, q1c⟩ := isOf hZ e0 (E_a2)
  obtain ⟨_, _, ⟨T1, L1, k1, n1⟩, -, X1, ⟨Lc1, hQ1, l1, y1, z1⟩, st1⟩ := X0.virtualBack hx (y := my_1) (z := my_1) hown (mvT hZ (wq hw 144 rfl)) (mvT hZ (wq hw 145 rfl)) (notFace_of_selects (args := #[]) (mvT hZ (wq hw 147 rfl))) (mvT hZ (wq hw 147 rfl)) (mvT hZ (wq hw 146 rfl)) (by decide) (backOf (W := 0) (rc2_id l Z a0 hw [] cs aE hS a2 a4 h0 n0 O0 F_a2_id) hZ (wq hw 148 rfl) (wq hw 63 rfl) (by decide) (by decide)) q1a q1c (g := (mkF m 1 #[.val (.ref a1), .val (.ref a2), .unset, .unset, .unset] [(.ref a2)])) rfl (by rw [hml]; rfl) (Steps.refl _) (argsL := []) (rest := []) (lenOf pd_0 rfl) rfl (by show 2 * 0 + _ ≤ _; exact Nat.le_of_eq rfl) (hb hby d_prog_22_method_11_1) (fun _ _ => ⟨rfl, e0, (by decide : 0 + 0 ≤ _), (by decide : 0 + 0 ≤ _)⟩)
  dsimp only [Pt.U, Pt.locs, Pt.cells, Pt.slots] at X1 l1 y1 z1 st1 hQ1
  have X1 := own_to X1 l1 y1 z1
  obtain ⟨rfl, N1q, e1⟩ := hQ1
  have N1 := Fr.app N0 N1q
  obtain ⟨cq2, kq2, q2a, q2b, q2c⟩ := isOf hZ e1 (E_a4)
  obtain ⟨_, _, ⟨T2, L2, k2, n2⟩, -, X2, ⟨Lc2, hQ2, l2, y2, z2⟩, st2⟩ := X1.virtualBack hx (y := my_2) (z := my_2) hown (mvT hZ (wq hw 149 rfl)) (mvT hZ (wq hw 150 rfl)) (notFace_of_selects (args := #[]) (mvT hZ (wq hw 152 rfl))) (mvT hZ (wq hw 152 rfl)) (mvT hZ (wq hw 151 rfl)) (by decide) (backOf (W := 0) (rc3_seq l Z a0 hw [] cs aE hS a4 j5 h0 n0 O0 F_a4_seq) hZ (wq hw 153 rfl) (wq hw 66 rfl) (by decide) (by decide)) q2a q2c (g := (mkF m 4 #[.val (.ref a1), .val (.ref a2), .unset, .unset, .unset] [(.ref a4)])) rfl (by rw [hml]; rfl) (Steps.refl _) (argsL := []) (rest := []) (lenOf pd_1 rfl) rfl (by show 2 * 0 + _ ≤ _; exact Nat.le_of_eq rfl) (hb hby d_prog_22_method_11_4) (fun _ _ => ⟨rfl, e1, (by decide : 0 + 0 ≤ _), (by decide : 0 + 0 ≤ _)⟩)
  dsimp only [Pt.U, Pt.locs, Pt.cells, Pt.slots] at X2 l2 y2 z2 st2 hQ2
  have X2 := own_to X2 l2 y2 z2
  obtain ⟨rfl, N2q, e2⟩ := hQ2
  have N2 := Fr.app N1 N2q
  obtain ⟨T3, X3, e3, st3⟩ := getF X2 hx hZ hown (host := "") (Or.inl (wq hw 128 rfl)) Via.refl e2 F_a1_named (g := (mkF m 9 #[.val (.ref a1), .val (.ref a2), .val (.long j5), .second, .unset] [(.ref a1)])) rfl rfl (hb hby d_prog_22_method_11_9)
  obtain ⟨T4, X4, e4, st4⟩ := getF X3 hx hZ hown (host := "") (Or.inl (wq hw 128 rfl)) Via.refl e3 F_a1_named (g := (mkF m 25 #[.val (.ref a1), .val (.ref a2), .val (.long j5), .second, .unset] [(.ref a1)])) rfl rfl (hb hby d_prog_22_method_11_25)
  obtain ⟨T5, h5, X5, e5, W5, st5⟩ := putF X4 hx hZ hown (host := "") (Or.inl (wq hw 128 rfl)) Via.refl e4 F_a1_named E_a1 (Or.inl (wq hw 129 rfl)) (wq hw 32 rfl) (ty := (.object nPredec_4)) (by decide) rfl rfl (g := (mkF m 32 #[.val (.ref a1), .val (.ref a2), .val (.long j5), .second, .val .null] [(.ref a2), (.ref a1)])) rfl rfl (hb hby d_prog_22_method_11_32)
  have f6 : Fld Z h5 a1 nKnownO_3 "named" nPredec_7 (.ref a2) := F_a1_named.same W5
  have N5 := Fr.snoc X5 N2 g_a1
  have O7 : Old Z n0 h5 := Old.wr O0 W5 g_a1
  have K8 : Keep h0 h5 [a1] := (Keep.refl h0 [a1]).wr W5 (Or.inl (List.mem_of_getElem? (i := 0) rfl))
  have t9 : Exa Z h5 a1 nKnownO_3 := (E_a1.wr W5)
  have t10 : Fld Z h5 a1 nKnownO_3 "namedSeq" "J" (.long j3) := (F_a1_namedSeq.other W5 (Or.inr (slot_ne (Or.inl (wq hw 155 rfl)) (Or.inl (wq hw 129 rfl)) (by decide) (t := .long) (t' := (.object nPredec_4)) (by decide) (by decide))))
  obtain ⟨T11, h11, X11, e11, W11, st11⟩ := putF X5 hx hZ hown (host := "") (Or.inl (wq hw 154 rfl)) Via.refl e5 t10 t9 (Or.inl (wq hw 155 rfl)) (wq hw 32 rfl) (ty := .long) (by decide) rfl rfl (g := (mkF m 37 #[.val (.ref a1), .val (.ref a2), .val (.long j5), .second, .val .null] [(.long j5), (.ref a1)])) rfl rfl (hb hby d_prog_22_method_11_37)
  have f12 : Fld Z h11 a1 nKnownO_3 "namedSeq" "J" (.long j5) := t10.same W11
  have N11 := Fr.snoc X11 N5 g_a1
  have O13 : Old Z n0 h11 := Old.wr O7 W11 g_a1
  have K14 : Keep h0 h11 [a1] := K8.wr W11 (Or.inl (List.mem_of_getElem? (i := 0) rfl))
  have t15 : Exa Z h11 a1 nKnownO_3 := (t9.wr W11)
  have t16 : Fld Z h11 a1 nKnownO_3 "alsoNamed" nList_8 .null := ((F_a1_alsoNamed.other W5 (Or.inr (slot_ne (Or.inl (wq hw 157 rfl)) (Or.inl (wq hw 129 rfl)) (by decide) (t := (.object "java/util/List")) (t' := (.object nPredec_4)) (by decide) (by decide)))).other W11 (Or.inr (slot_ne (Or.inl (wq hw 157 rfl)) (Or.inl (wq hw 155 rfl)) (by decide) (t := (.object "java/util/List")) (t' := .long) (by decide) (by decide))))
  have t17 : Fld Z h11 a1 nKnownO_3 "named" nPredec_7 (.ref a2) := (f6.other W11 (Or.inr (slot_ne (Or.inl (wq hw 129 rfl)) (Or.inl (wq hw 155 rfl)) (by decide) (t := (.object nPredec_4)) (t' := .long) (by decide) (by decide))))
  obtain ⟨fs, hr, hrun, hended, hW, hsame⟩ := X11.leave (v := (some .null)) (fun h => by rw [Bd.returns] at h; cases h)
  refine ⟨_, _, pre0 _ ?_, hrun, hended, _, _, rfl, ?_, ⟨_, rfl⟩, hW, hsame.mono (by decide) (by decide)⟩
  · refine XS.aloadN X0.here hx rfl (hb hby d_prog_22_method_11_0) rfl rfl ?_
    refine st1.trans ?_
    refine st2.trans ?_
    refine XS.lstoreN X2.here hx rfl (hb hby d_prog_22_method_11_7) rfl (l' := #[.val (.ref a1), .val (.ref a2), .val (.long j5), .second, .unset]) rfl ?_
    refine XS.aloadN X2.here hx rfl (hb hby d_prog_22_method_11_8) rfl rfl ?_
    refine st3 _ ?_
    refine XS.ifnullYes X3.here hx rfl (pc0 := 12) (pc' := 24) rfl (hb hby d_prog_22_method_11_12) rfl (by decide) (by decide) ?_
    refine XS.aloadN X3.here hx rfl (hb hby d_prog_22_method_11_24) rfl rfl ?_
    refine st4 _ ?_
    refine XS.astore X4.here hx rfl (hb hby d_prog_22_method_11_28) rfl rfl (l' := #[.val (.ref a1), .val (.ref a2), .val (.long j5), .second, .val .null]) rfl ?_
    refine XS.aloadN X4.here hx rfl (hb hby d_prog_22_method_11_30) rfl rfl ?_
    refine XS.aloadN X4.here hx rfl (hb hby d_prog_22_method_11_31) rfl rfl ?_
    refine st5 _ ?_
    refine XS.aloadN X5.here hx rfl (hb hby d_prog_22_method_11_35) rfl rfl ?_
    refine XS.lloadN X5.here hx rfl (hb hby d_prog_22_method_11_36) rfl ?_
    refine st11 _ ?_
    refine XS.aload X11.here hx rfl (hb hby d_prog_22_method_11_40) rfl rfl ?_
    exact retOut X11 hx Bd.returns rfl (Or.inr (Or.inr (Or.inr (Or.inr ⟨rfl, rfl, rfl⟩)))) (hb hby d_prog_22_method_11_42) hr
  · show Q_rc1_name Z aE a1 a2 j3 a4 j5 h0 n0 _ T11.heap _
    rw [e11]
    exact ⟨rfl, N11, K14, t15, t16, t17, f12⟩
set_option maxRecDepth 65536 in
set_option maxHeartbeats 40000000 in
theorem rs_N_0_0 (l : Launch) (Z : State) (a0 : Array Value) (hw : ∀ d ∈ tables_1, d.before a0 Z = true) (ws : List Jvm.Cond) (cs : Int32) (aE : Addr) (hS : SB Z cs aE) (k pA mA : Addr) (sa : Int64) (pB mB : Addr) (sb : Int64) (h0 : Heap) (n0 : Nat) (O0 : Old Z n0 h0) (hq : ¬ sa = sb) (hFB : FB Z n0 h0 k pA mA sa pB mB sb) (hKS : KS0 Z h0 k) :
    Met l my_4 method_3_code 10 (some .int) ws ({ frames := 5, cells := 2, slots := 4, locals := 67 } : Room) #[(.ref k), (.int (0 : Int32)), (.ref pA), (.ref pB), (.long sa), (.long sb), (.int (0 : Int32)), (.int (0 : Int32))] Z h0 (QSN Z k pA mA sa pB mB sb h0 n0) := by
  refine MetFree.of_bodySF (plainFor_of_name pn_3) hisR ?_
  intro p e s m args below meth c s₁ Bd hml0 hP hK
  obtain ⟨rfl, hZ, hh⟩ := hP
  have hx := Bd.exec
  have hby := Bd.bytes
  have hml : c.maxLocals = 10 := hml0
  have hown : s.vm.findClass nKnownO_13 = some m.cls := findClass_of_methodNamed Bd.named
  have hnm := (name_of_methodNamed Bd.named Bd.method).1
  have X0 : Stand p l e ({ frames := 5, cells := 2, slots := 4, locals := 67 } : Room) s m #[(.ref k), (.int (0 : Int32)), (.ref pA), (.ref pB), (.long sa), (.long sb), (.int (0 : Int32)), (.int (0 : Int32))] below meth c s₁ [] 0 0 := Stand.of_body Bd
  have e0 : s₁.heap = h0 := by rw [← hh, Bd.state]; rfl
  have N0 := Fr.nil n0
  obtain ⟨f₀, hf₀⟩ : ∃ f, f = entryFrame m #[(.ref k), (.int (0 : Int32)), (.ref pA), (.ref pB), (.long sa), (.long sb), (.int (0 : Int32)), (.int (0 : Int32))] 10 := ⟨_, rfl⟩
  rw [← hf₀]
  have pre0 : Go p e below s₁ f₀ s₁ (mkF m 0 #[.val (.ref k), .val (.int (0 : Int32)), .val (.ref pA), .val (.ref pB), .val (.long sa), .second, .val (.long sb), .second, .val (.int (0 : Int32)), .val (.int (0 : Int32))] []) := fun t kk => castTop (hf₀.trans (ef_rs_N_0_0 m (k) ((0 : Int32)) (pA) (pB) (sa) (sb) ((0 : Int32)) ((0 : Int32)))) kk
  obtain ⟨Ek, gk, EpA, FpA, EmA, FmA, EpB, FpB, EmB, FmB⟩ := hFB
  obtain ⟨q0, KN1, KN2, KN3⟩ := hKS
  obtain ⟨cq1, kq1, q1a, q1b, q1c⟩ := isOf hZ e0 (Ek)
  obtain ⟨_, _, ⟨T1, L1, k1, n1⟩, -, X1, ⟨Lc1, hQ1, l1, y1, z1⟩, st1⟩ := X0.virtualBack hx (y := my_3) (z := my_3) hown (mvT hZ (wq hw 139 rfl)) (mvT hZ (wq hw 140 rfl)) (notFace_of_selects (args := #[]) (mvT hZ (wq hw 142 rfl))) (mvT hZ (wq hw 142 rfl)) (mvT hZ (wq hw 141 rfl)) (by decide) (backOf (W := 0) (rc1_name l Z a0 hw [] cs aE hS k pA q0 mA sa h0 n0 O0 gk Ek KN3 KN1 KN2 EpA FpA EmA FmA) hZ (wq hw 143 rfl) (wq hw 33 rfl) (by decide) (by decide)) q1a q1c (g := (mkF m 6 #[.val (.ref k), .val (.int (0 : Int32)), .val (.ref pA), .val (.ref pB), .val (.long sa), .second, .val (.long sb), .second, .val (.int (0 : Int32)), .val (.int (0 : Int32))] [(.ref pA), (.ref k)])) rfl (by rw [hml]; rfl) (Steps.refl _) (argsL := [(.ref pA)]) (rest := []) (lenOf pd_2 rfl) rfl (by show 2 * 0 + _ ≤ _; exact Nat.le_of_eq rfl) (hb hby d_method_3_6) (fun _ _ => ⟨rfl, e0, (by decide : 0 + 0 ≤ _), (by decide : 0 + 0 ≤ _)⟩)
  dsimp only [Pt.U, Pt.locs, Pt.cells, Pt.slots] at X1 l1 y1 z1 st1 hQ1
  have X1 := own_to X1 l1 y1 z1
  obtain ⟨rfl, N1q, K1, q1_0, q1_1, q1_2, q1_3⟩ := hQ1
  have N1 := Fr.app N0 N1q
  have O2 : Old Z n0 T1.heap := Old.keep O0 K1 (allS gk all0)
  have K3 : Keep h0 T1.heap [k] := (Keep.refl h0 [k]).trans K1 (allS (Or.inl (List.mem_of_getElem? (i := 0) rfl)) all0)
  have t4 : Exa Z T1.heap pA nPredec_4 := (EpA.keep K1)
  have ne5 : pA ≠ k := Exa.ne EpA Ek (by decide)
  have t6 : Fld Z T1.heap pA nPredec_4 "id" nMessag_5 (.ref mA) := (FpA.keep K1 (ninS ne5 nin0))
  have t7 : Exa Z T1.heap mA nMessag_6 := (EmA.keep K1)
  have ne8 : mA ≠ k := Exa.ne EmA Ek (by decide)
  have t9 : Fld Z T1.heap mA nMessag_6 "seq" "J" (.long sa) := (FmA.keep K1 (ninS ne8 nin0))
  have t10 : Exa Z T1.heap pB nPredec_4 := (EpB.keep K1)
  have ne11 : pB ≠ k := Exa.ne EpB Ek (by decide)
  have t12 : Fld Z T1.heap pB nPredec_4 "id" nMessag_5 (.ref mB) := (FpB.keep K1 (ninS ne11 nin0))
  have t13 : Exa Z T1.heap mB nMessag_6 := (EmB.keep K1)
  have ne14 : mB ≠ k := Exa.ne EmB Ek (by decide)
  have t15 : Fld Z T1.heap mB nMessag_6 "seq" "J" (.long sb) := (FmB.keep K1 (ninS ne14 nin0))
  obtain ⟨fs, hr, hrun, hended, hW, hsame⟩ := X1.leave (v := (some (.int (1 : Int32)))) (fun h => by rw [Bd.returns] at h; cases h)
  refine ⟨_, _, pre0 _ ?_, hrun, hended, _, _, rfl, ?_, ⟨_, rfl⟩, hW, hsame.mono (by decide) (by decide)⟩
  · refine XS.iloadN X0.here hx rfl (hb hby d_method_3_0) rfl ?_
    refine XS.ifNo X0.here hx rfl (hb hby d_method_3_1) rfl ((if0 _ _).trans (teq (by decide : (0 : Int32) = (0 : Int32))).2) ?_
    refine XS.aloadN X0.here hx rfl (hb hby d_method_3_4) rfl rfl ?_
    refine XS.aloadN X0.here hx rfl (hb hby d_method_3_5) rfl rfl ?_
    refine st1.trans ?_
    refine XS.pop X1.here hx rfl (hb hby d_method_3_9) rfl rfl ?_
    refine XS.iload X1.here hx rfl (hb hby d_method_3_10) rfl ?_
    refine XS.iload X1.here hx rfl (hb hby d_method_3_12) rfl ?_
    refine XS.ifYes X1.here hx rfl (pc0 := 14) (pc' := 21) rfl (hb hby d_method_3_14) rfl ((if0 _ _).trans (teq (by decide : (0 : Int32) = (0 : Int32))).1) (by decide) (by decide) ?_
    refine XS.iconst X1.here hx rfl (hb hby d_method_3_21) ?_
    refine XS.ior X1.here hx rfl (hb hby d_method_3_22) rfl ?_
    show Steps p.tables e below (T1.setTop (mkF m 23 #[.val (.ref k), .val (.int (0 : Int32)), .val (.ref pA), .val (.ref pB), .val (.long sa), .second, .val (.long sb), .second, .val (.int (0 : Int32)), .val (.int (0 : Int32))] [(.int (1 : Int32))])) _
    exact retI X1 hx Bd.returns (hb hby d_method_3_23) hr
  · show QSN Z k pA mA sa pB mB sb h0 n0 _ T1.heap _
    exact ⟨_, rfl, N1, K3.1, O2, ⟨q1_0, gk, t4, t6, t7, t9, t10, t12, t13, t15⟩, Or.inr (Or.inl ⟨rfl, ⟨q1_2, q1_3, q1_1⟩⟩)⟩
set_option maxRecDepth 65536 in
set_option maxHeartbeats 40000000 in
theorem rs_N_0_1 (l : Launch) (Z : State) (a0 : Array Value) (hw : ∀ d ∈ tables_1, d.before a0 Z = true) (ws : List Jvm.Cond) (cs : Int32) (aE : Addr) (hS : SB Z cs aE) (k pA mA : Addr) (sa : Int64) (pB mB : Addr) (sb : Int64) (h0 : Heap) (n0 : Nat) (O0 : Old Z n0 h0) (hq : ¬ sa = sb) (hFB : FB Z n0 h0 k pA mA sa pB mB sb) (hKS : KS0 Z h0 k) :
    Met l my_4 method_3_code 10 (some .int) ws ({ frames := 5, cells := 2, slots := 4, locals := 67 } : Room) #[(.ref k), (.int (1 : Int32)), (.ref pA), (.ref pB), (.long sa), (.long sb), (.int (0 : Int32)), (.int (0 : Int32))] Z h0 (QSN Z k pA mA sa pB mB sb h0 n0) := by
  refine MetFree.of_bodySF (plainFor_of_name pn_3) hisR ?_
  intro p e s m args below meth c s₁ Bd hml0 hP hK
  obtain ⟨rfl, hZ, hh⟩ := hP
  have hx := Bd.exec
  have hby := Bd.bytes
  have hml : c.maxLocals = 10 := hml0
  have hown : s.vm.findClass nKnownO_13 = some m.cls := findClass_of_methodNamed Bd.named
  have hnm := (name_of_methodNamed Bd.named Bd.method).1
  have X0 : Stand p l e ({ frames := 5, cells := 2, slots := 4, locals := 67 } : Room) s m #[(.ref k), (.int (1 : Int32)), (.ref pA), (.ref pB), (.long sa), (.long sb), (.int (0 : Int32)), (.int (0 : Int32))] below meth c s₁ [] 0 0 := Stand.of_body Bd
  have e0 : s₁.heap = h0 := by rw [← hh, Bd.state]; rfl
  have N0 := Fr.nil n0
  obtain ⟨f₀, hf₀⟩ : ∃ f, f = entryFrame m #[(.ref k), (.int (1 : Int32)), (.ref pA), (.ref pB), (.long sa), (.long sb), (.int (0 : Int32)), (.int (0 : Int32))] 10 := ⟨_, rfl⟩
  rw [← hf₀]
  have pre0 : Go p e below s₁ f₀ s₁ (mkF m 0 #[.val (.ref k), .val (.int (1 : Int32)), .val (.ref pA), .val (.ref pB), .val (.long sa), .second, .val (.long sb), .second, .val (.int (0 : Int32)), .val (.int (0 : Int32))] []) := fun t kk => castTop (hf₀.trans (ef_rs_N_0_1 m (k) ((1 : Int32)) (pA) (pB) (sa) (sb) ((0 : Int32)) ((0 : Int32)))) kk
  obtain ⟨Ek, gk, EpA, FpA, EmA, FmA, EpB, FpB, EmB, FmB⟩ := hFB
  obtain ⟨q0, KN1, KN2, KN3⟩ := hKS
  obtain ⟨cq1, kq1, q1a, q1b, q1c⟩ := isOf hZ e0 (Ek)
  obtain ⟨_, _, ⟨T1, L1, k1, n1⟩, -, X1, ⟨Lc1, hQ1, l1, y1, z1⟩, st1⟩ := X0.virtualBack hx (y := my_3) (z := my_3) hown (mvT hZ (wq hw 139 rfl)) (mvT hZ (wq hw 140 rfl)) (notFace_of_selects (args := #[]) (mvT hZ (wq hw 142 rfl))) (mvT hZ (wq hw 142 rfl)) (mvT hZ (wq hw 141 rfl)) (by decide) (backOf (W := 0) (rc1_name l Z a0 hw [] cs aE hS k pB q0 mB sb h0 n0 O0 gk Ek KN3 KN1 KN2 EpB FpB EmB FmB) hZ (wq hw 143 rfl) (wq hw 33 rfl) (by decide) (by decide)) q1a q1c (g := (mkF m 31 #[.val (.ref k), .val (.int (1 : Int32)), .val (.ref pA), .val (.ref pB), .val (.long sa), .second, .val (.long sb), .second, .val (.int (0 : Int32)), .val (.int (0 : Int32))] [(.ref pB), (.ref k)])) rfl (by rw [hml]; rfl) (Steps.refl _) (argsL := [(.ref pB)]) (rest := []) (lenOf pd_2 rfl) rfl (by show 2 * 0 + _ ≤ _; exact Nat.le_of_eq rfl) (hb hby d_method_3_31) (fun _ _ => ⟨rfl, e0, (by decide : 0 + 0 ≤ _), (by decide : 0 + 0 ≤ _)⟩)
  dsimp only [Pt.U, Pt.locs, Pt.cells, Pt.slots] at X1 l1 y1 z1 st1 hQ1
  have X1 := own_to X1 l1 y1 z1
  obtain ⟨rfl, N1q, K1, q1_0, q1_1, q1_2, q1_3⟩ := hQ1
  have N1 := Fr.app N0 N1q
  have O2 : Old Z n0 T1.heap := Old.keep O0 K1 (allS gk all0)
  have K3 : Keep h0 T1.heap [k] := (Keep.refl h0 [k]).trans K1 (allS (Or.inl (List.mem_of_getElem? (i := 0) rfl)) all0)
  have t4 : Exa Z T1.heap pA nPredec_4 := (EpA.keep K1)
  have ne5 : pA ≠ k := Exa.ne EpA Ek (by decide)
  have t6 : Fld Z T1.heap pA nPredec_4 "id" nMessag_5 (.ref mA) := (FpA.keep K1 (ninS ne5 nin0))
  have t7 : Exa Z T1.heap mA nMessag_6 := (EmA.keep K1)
  have ne8 : mA ≠ k := Exa.ne EmA Ek (by decide)
  have t9 : Fld Z T1.heap mA nMessag_6 "seq" "J" (.long sa) := (FmA.keep K1 (ninS ne8 nin0))
  have t10 : Exa Z T1.heap pB nPredec_4 := (EpB.keep K1)
  have ne11 : pB ≠ k := Exa.ne EpB Ek (by decide)
  have t12 : Fld Z T1.heap pB nPredec_4 "id" nMessag_5 (.ref mB) := (FpB.keep K1 (ninS ne11 nin0))
  have t13 : Exa Z T1.heap mB nMessag_6 := (EmB.keep K1)
  have ne14 : mB ≠ k := Exa.ne EmB Ek (by decide)
  have t15 : Fld Z T1.heap mB nMessag_6 "seq" "J" (.long sb) := (FmB.keep K1 (ninS ne14 nin0))
  obtain ⟨fs, hr, hrun, hended, hW, hsame⟩ := X1.leave (v := (some (.int (2 : Int32)))) (fun h => by rw [Bd.returns] at h; cases h)
  refine ⟨_, _, pre0 _ ?_, hrun, hended, _, _, rfl, ?_, ⟨_, rfl⟩, hW, hsame.mono (by decide) (by decide)⟩
  · refine XS.iloadN X0.here hx rfl (hb hby d_method_3_0) rfl ?_
    refine XS.ifYes X0.here hx rfl (pc0 := 1) (pc' := 24) rfl (hb hby d_method_3_1) rfl ((if0 _ _).trans (feq (by decide : ¬ ((1 : Int32) = (0 : Int32)))).2) (by decide) (by decide) ?_
    refine XS.iloadN X0.here hx rfl (hb hby d_method_3_24) rfl ?_
    refine XS.iconst X0.here hx rfl (hb hby d_method_3_25) ?_
    refine XS.icmpNo X0.here hx rfl (hb hby d_method_3_26) rfl (teq (by decide : (1 : Int32) = (1 : Int32))).2 ?_
    refine XS.aloadN X0.here hx rfl (hb hby d_method_3_29) rfl rfl ?_
    refine XS.aloadN X0.here hx rfl (hb hby d_method_3_30) rfl rfl ?_
    refine st1.trans ?_
    refine XS.pop X1.here hx rfl (hb hby d_method_3_34) rfl rfl ?_
    refine XS.iload X1.here hx rfl (hb hby d_method_3_35) rfl ?_
    refine XS.iload X1.here hx rfl (hb hby d_method_3_37) rfl ?_
    refine XS.ifYes X1.here hx rfl (pc0 := 39) (pc' := 46) rfl (hb hby d_method_3_39) rfl ((if0 _ _).trans (teq (by decide : (0 : Int32) = (0 : Int32))).1) (by decide) (by decide) ?_
    refine XS.iconst X1.here hx rfl (hb hby d_method_3_46) ?_
    refine XS.ior X1.here hx rfl (hb hby d_method_3_47) rfl ?_
    show Steps p.tables e below (T1.setTop (mkF m 48 #[.val (.ref k), .val (.int (1 : Int32)), .val (.ref pA), .val (.ref pB), .val (.long sa), .second, .val (.long sb), .second, .val (.int (0 : Int32)), .val (.int (0 : Int32))] [(.int (2 : Int32))])) _
    exact retI X1 hx Bd.returns (hb hby d_method_3_48) hr
  · show QSN Z k pA mA sa pB mB sb h0 n0 _ T1.heap _
    exact ⟨_, rfl, N1, K3.1, O2, ⟨q1_0, gk, t4, t6, t7, t9, t10, t12, t13, t15⟩, Or.inr (Or.inr (Or.inl ⟨rfl, ⟨q1_2, q1_3, q1_1⟩⟩))⟩
def Q_rc4_unname (Z : State) (aE : Addr) (a1 : Addr) (j2 : Int64) (h0 : Heap) (n0 : Nat) (v : Option Value) (h : Heap) (L : List Loc) : Prop := v = some .null ∧ Fr n0 L ∧ h = h0
set_option maxRecDepth 65536 in
set_option maxHeartbeats 40000000 in
theorem rc4_unname (l : Launch) (Z : State) (a0 : Array Value) (hw : ∀ d ∈ tables_1, d.before a0 Z = true) (ws : List Jvm.Cond) (cs : Int32) (aE : Addr) (hS : SB Z cs aE) (a1 : Addr) (j2 : Int64) (h0 : Heap) (n0 : Nat) (O0 : Old Z n0 h0) (g_a1 : n0 ≤ a1) (F_a1_named : Fld Z h0 a1 nKnownO_3 "named" nPredec_7 .null) :
    Met l my_5 prog_22_method_12_code 5 (some (.object nPredec_4)) ws ({ frames := 0, cells := 0, slots := 0, locals := 0 } : Room) #[(.ref a1), (.long j2)] Z h0 (Q_rc4_unname Z aE a1 j2 h0 n0) := by
  refine MetFree.of_bodySF (plainFor_of_name pn_2) hisR ?_
  intro p e s m args below meth c s₁ Bd hml0 hP hK
  obtain ⟨rfl, hZ, hh⟩ := hP
  have hx := Bd.exec
  have hby := Bd.bytes
  have hml : c.maxLocals = 5 := hml0
  have hown : s.vm.findClass nKnownO_3 = some m.cls := findClass_of_methodNamed Bd.named
  have hnm := (name_of_methodNamed Bd.named Bd.method).1
  have X0 : Stand p l e ({ frames := 0, cells := 0, slots := 0, locals := 0 } : Room) s m #[(.ref a1), (.long j2)] below meth c s₁ [] 0 0 := Stand.of_body Bd
  have e0 : s₁.heap = h0 := by rw [← hh, Bd.state]; rfl
  have N0 := Fr.nil n0
  obtain ⟨f₀, hf₀⟩ : ∃ f, f = entryFrame m #[(.ref a1), (.long j2)] 5 := ⟨_, rfl⟩
  rw [← hf₀]
  have pre0 : Go p e below s₁ f₀ s₁ (mkF m 0 #[.val (.ref a1), .val (.long j2), .second, .unset, .unset] []) := fun t kk => castTop (hf₀.trans (ef_rc4_unname m (a1) (j2))) kk
  obtain ⟨T1, X1, e1, st1⟩ := getF X0 hx hZ hown (host := "") (Or.inl (wq hw 128 rfl)) Via.refl e0 F_a1_named (g := (mkF m 1 #[.val (.ref a1), .val (.long j2), .second, .unset, .unset] [(.ref a1)])) rfl rfl (hb hby d_prog_22_method_12_1)
  obtain ⟨fs, hr, hrun, hended, hW, hsame⟩ := X1.leave (v := (some .null)) (fun h => by rw [Bd.returns] at h; cases h)
  refine ⟨_, _, pre0 _ ?_, hrun, hended, _, _, rfl, ?_, ⟨_, rfl⟩, hW, hsame.mono (by decide) (by decide)⟩
  · refine XS.aloadN X0.here hx rfl (hb hby d_prog_22_method_12_0) rfl rfl ?_
    refine st1 _ ?_
    refine XS.ifnonnullNo X1.here hx rfl (hb hby d_prog_22_method_12_4) rfl ?_
    refine XS.aconstNull X1.here hx rfl (hb hby d_prog_22_method_12_7) ?_
    exact retOut X1 hx Bd.returns rfl (Or.inr (Or.inr (Or.inr (Or.inr ⟨rfl, rfl, rfl⟩)))) (hb hby d_prog_22_method_12_8) hr
  · show Q_rc4_unname Z aE a1 j2 h0 n0 _ T1.heap _
    rw [e1]
    exact ⟨rfl, N0, rfl⟩
set_option maxRecDepth 65536 in
set_option maxHeartbeats 40000000 in
theorem rs_N_0_2 (l : Launch) (Z : State) (a0 : Array Value) (hw : ∀ d ∈ tables_1, d.before a0 Z = true) (ws : List Jvm.Cond) (cs : Int32) (aE : Addr) (hS : SB Z cs aE) (k pA mA : Addr) (sa : Int64) (pB mB : Addr) (sb : Int64) (h0 : Heap) (n0 : Nat) (O0 : Old Z n0 h0) (hq : ¬ sa = sb) (hFB : FB Z n0 h0 k pA mA sa pB mB sb) (hKS : KS0 Z h0 k) :
    Met l my_4 method_3_code 10 (some .int) ws ({ frames := 5, cells := 2, slots := 4, locals := 67 } : Room) #[(.ref k), (.int (2 : Int32)), (.ref pA), (.ref pB), (.long sa), (.long sb), (.int (0 : Int32)), (.int (0 : Int32))] Z h0 (QSN Z k pA mA sa pB mB sb h0 n0) := by
  refine MetFree.of_bodySF (plainFor_of_name pn_3) hisR ?_
  intro p e s m args below meth c s₁ Bd hml0 hP hK
  obtain ⟨rfl, hZ, hh⟩ := hP
  have hx := Bd.exec
  have hby := Bd.bytes
  have hml : c.maxLocals = 10 := hml0
  have hown : s.vm.findClass nKnownO_13 = some m.cls := findClass_of_methodNamed Bd.named
  have hnm := (name_of_methodNamed Bd.named Bd.method).1
  have X0 : Stand p l e ({ frames := 5, cells := 2, slots := 4, locals := 67 } : Room) s m #[(.ref k), (.int (2 : Int32)), (.ref pA), (.ref pB), (.long sa), (.long sb), (.int (0 : Int32)), (.int (0 : Int32))] below meth c s₁ [] 0 0 := Stand.of_body Bd
  have e0 : s₁.heap = h0 := by rw [← hh, Bd.state]; rfl
  have N0 := Fr.nil n0
  obtain ⟨f₀, hf₀⟩ : ∃ f, f = entryFrame m #[(.ref k), (.int (2 : Int32)), (.ref pA), (.ref pB), (.long sa), (.long sb), (.int (0 : Int32)), (.int (0 : Int32))] 10 := ⟨_, rfl⟩
  rw [← hf₀]
  have pre0 : Go p e below s₁ f₀ s₁ (mkF m 0 #[.val (.ref k), .val (.int (2 : Int32)), .val (.ref pA), .val (.ref pB), .val (.long sa), .second, .val (.long sb), .second, .val (.int (0 : Int32)), .val (.int (0 : Int32))] []) := fun t kk => castTop (hf₀.trans (ef_rs_N_0_2 m (k) ((2 : Int32)) (pA) (pB) (sa) (sb) ((0 : Int32)) ((0 : Int32)))) kk
  obtain ⟨Ek, gk, EpA, FpA, EmA, FmA, EpB, FpB, EmB, FmB⟩ := hFB
  obtain ⟨q0, KN1, KN2, KN3⟩ := hKS
  obtain ⟨cq1, kq1, q1a, q1b, q1c⟩ := isOf hZ e0 (Ek)
  obtain ⟨_, _, ⟨T1, L1, k1, n1⟩, -, X1, ⟨Lc1, hQ1, l1, y1, z1⟩, st1⟩ := X0.virtualBack hx (y := my_5) (z := my_5) hown (mvT hZ (wq hw 134 rfl)) (mvT hZ (wq hw 135 rfl)) (notFace_of_selects (args := #[]) (mvT hZ (wq hw 137 rfl))) (mvT hZ (wq hw 137 rfl)) (mvT hZ (wq hw 136 rfl)) (by decide) (backOf (W := 0) (rc4_unname l Z a0 hw [] cs aE hS k sa h0 n0 O0 gk KN1) hZ (wq hw 138 rfl) (wq hw 33 rfl) (by decide) (by decide)) q1a q1c (g := (mkF m 57 #[.val (.ref k), .val (.int (2 : Int32)), .val (.ref pA), .val (.ref pB), .val (.long sa), .second, .val (.long sb), .second, .val (.int (0 : Int32)), .val (.int (0 : Int32))] [(.long sa), (.ref k)])) rfl (by rw [hml]; rfl) (Steps.refl _) (argsL := [(.long sa)]) (rest := []) (lenOf pd_3 rfl) rfl (by show 2 * 0 + _ ≤ _; exact Nat.le_of_eq rfl) (hb hby d_method_3_57) (fun _ _ => ⟨rfl, e0, (by decide : 0 + 0 ≤ _), (by decide : 0 + 0 ≤ _)⟩)
  dsimp only [Pt.U, Pt.locs, Pt.cells, Pt.slots] at X1 l1 y1 z1 st1 hQ1
  have X1 := own_to X1 l1 y1 z1
  obtain ⟨rfl, N1q, e1⟩ := hQ1
  have N1 := Fr.app N0 N1q
  obtain ⟨fs, hr, hrun, hended, hW, hsame⟩ := X1.leave (v := (some (.int (0 : Int32)))) (fun h => by rw [Bd.returns] at h; cases h)
  refine ⟨_, _, pre0 _ ?_, hrun, hended, _, _, rfl, ?_, ⟨_, rfl⟩, hW, hsame.mono (by decide) (by decide)⟩
  · refine XS.iloadN X0.here hx rfl (hb hby d_method_3_0) rfl ?_
    refine XS.ifYes X0.here hx rfl (pc0 := 1) (pc' := 24) rfl (hb hby d_method_3_1) rfl ((if0 _ _).trans (feq (by decide : ¬ ((2 : Int32) = (0 : Int32)))).2) (by decide) (by decide) ?_
    refine XS.iloadN X0.here hx rfl (hb hby d_method_3_24) rfl ?_
    refine XS.iconst X0.here hx rfl (hb hby d_method_3_25) ?_
    refine XS.icmpYes X0.here hx rfl (pc0 := 26) (pc' := 49) rfl (hb hby d_method_3_26) rfl (feq (by decide : ¬ ((2 : Int32) = (1 : Int32)))).2 (by decide) (by decide) ?_
    refine XS.iloadN X0.here hx rfl (hb hby d_method_3_49) rfl ?_
    refine XS.iconst X0.here hx rfl (hb hby d_method_3_50) ?_
    refine XS.icmpNo X0.here hx rfl (hb hby d_method_3_51) rfl (teq (by decide : (2 : Int32) = (2 : Int32))).2 ?_
    refine XS.aloadN X0.here hx rfl (hb hby d_method_3_54) rfl rfl ?_
    refine XS.lload X0.here hx rfl (hb hby d_method_3_55) rfl ?_
    refine st1.trans ?_
    refine XS.pop X1.here hx rfl (hb hby d_method_3_60) rfl rfl ?_
    refine XS.iload X1.here hx rfl (hb hby d_method_3_61) rfl ?_
    refine XS.iload X1.here hx rfl (hb hby d_method_3_63) rfl ?_
    refine XS.ifYes X1.here hx rfl (pc0 := 65) (pc' := 72) rfl (hb hby d_method_3_65) rfl ((if0 _ _).trans (teq (by decide : (0 : Int32) = (0 : Int32))).1) (by decide) (by decide) ?_
    refine XS.iconst X1.here hx rfl (hb hby d_method_3_72) ?_
    refine XS.iand X1.here hx rfl (hb hby d_method_3_73) rfl ?_
    show Steps p.tables e below (T1.setTop (mkF m 74 #[.val (.ref k), .val (.int (2 : Int32)), .val (.ref pA), .val (.ref pB), .val (.long sa), .second, .val (.long sb), .second, .val (.int (0 : Int32)), .val (.int (0 : Int32))] [(.int (0 : Int32))])) _
    exact retI X1 hx Bd.returns (hb hby d_method_3_74) hr
  · show QSN Z k pA mA sa pB mB sb h0 n0 _ T1.heap _
    rw [e1]
    exact ⟨_, rfl, N1, Nat.le_refl _, O0, ⟨Ek, gk, EpA, FpA, EmA, FmA, EpB, FpB, EmB, FmB⟩, Or.inl ⟨rfl, ⟨_, KN1, KN2, KN3⟩⟩⟩
set_option maxRecDepth 65536 in
set_option maxHeartbeats 40000000 in
theorem rs_N_0_3 (l : Launch) (Z : State) (a0 : Array Value) (hw : ∀ d ∈ tables_1, d.before a0 Z = true) (ws : List Jvm.Cond) (cs : Int32) (aE : Addr) (hS : SB Z cs aE) (k pA mA : Addr) (sa : Int64) (pB mB : Addr) (sb : Int64) (h0 : Heap) (n0 : Nat) (O0 : Old Z n0 h0) (hq : ¬ sa = sb) (hFB : FB Z n0 h0 k pA mA sa pB mB sb) (hKS : KS0 Z h0 k) :
    Met l my_4 method_3_code 10 (some .int) ws ({ frames := 5, cells := 2, slots := 4, locals := 67 } : Room) #[(.ref k), (.int (3 : Int32)), (.ref pA), (.ref pB), (.long sa), (.long sb), (.int (0 : Int32)), (.int (0 : Int32))] Z h0 (QSN Z k pA mA sa pB mB sb h0 n0) := by
  refine MetFree.of_bodySF (plainFor_of_name pn_3) hisR ?_
  intro p e s m args below meth c s₁ Bd hml0 hP hK
  obtain ⟨rfl, hZ, hh⟩ := hP
  have hx := Bd.exec
  have hby := Bd.bytes
  have hml : c.maxLocals = 10 := hml0
  have hown : s.vm.findClass nKnownO_13 = some m.cls := findClass_of_methodNamed Bd.named
  have hnm := (name_of_methodNamed Bd.named Bd.method).1
  have X0 : Stand p l e ({ frames := 5, cells := 2, slots := 4, locals := 67 } : Room) s m #[(.ref k), (.int (3 : Int32)), (.ref pA), (.ref pB), (.long sa), (.long sb), (.int (0 : Int32)), (.int (0 : Int32))] below meth c s₁ [] 0 0 := Stand.of_body Bd
  have e0 : s₁.heap = h0 := by rw [← hh, Bd.state]; rfl
  have N0 := Fr.nil n0
  obtain ⟨f₀, hf₀⟩ : ∃ f, f = entryFrame m #[(.ref k), (.int (3 : Int32)), (.ref pA), (.ref pB), (.long sa), (.long sb), (.int (0 : Int32)), (.int (0 : Int32))] 10 := ⟨_, rfl⟩
  rw [← hf₀]
  have pre0 : Go p e below s₁ f₀ s₁ (mkF m 0 #[.val (.ref k), .val (.int (3 : Int32)), .val (.ref pA), .val (.ref pB), .val (.long sa), .second, .val (.long sb), .second, .val (.int (0 : Int32)), .val (.int (0 : Int32))] []) := fun t kk => castTop (hf₀.trans (ef_rs_N_0_3 m (k) ((3 : Int32)) (pA) (pB) (sa) (sb) ((0 : Int32)) ((0 : Int32)))) kk
  obtain ⟨Ek, gk, EpA, FpA, EmA, FmA, EpB, FpB, EmB, FmB⟩ := hFB
  obtain ⟨q0, KN1, KN2, KN3⟩ := hKS
  obtain ⟨cq1, kq1, q1a, q1b, q1c⟩ := isOf hZ e0 (Ek)
  obtain ⟨_, _, ⟨T1, L1, k1, n1⟩, -, X1, ⟨Lc1, hQ1, l1, y1, z1⟩, st1⟩ := X0.virtualBack hx (y := my_5) (z := my_5) hown (mvT hZ (wq hw 134 rfl)) (mvT hZ (wq hw 135 rfl)) (notFace_of_selects (args := #[]) (mvT hZ (wq hw 137 rfl))) (mvT hZ (wq hw 137 rfl)) (mvT hZ (wq hw 136 rfl)) (by decide) (backOf (W := 0) (rc4_unname l Z a0 hw [] cs aE hS k sb h0 n0 O0 gk KN1) hZ (wq hw 138 rfl) (wq hw 33 rfl) (by decide) (by decide)) q1a q1c (g := (mkF m 78 #[.val (.ref k), .val (.int (3 : Int32)), .val (.ref pA), .val (.ref pB), .val (.long sa), .second, .val (.long sb), .second, .val (.int (0 : Int32)), .val (.int (0 : Int32))] [(.long sb), (.ref k)])) rfl (by rw [hml]; rfl) (Steps.refl _) (argsL := [(.long sb)]) (rest := []) (lenOf pd_3 rfl) rfl (by show 2 * 0 + _ ≤ _; exact Nat.le_of_eq rfl) (hb hby d_method_3_78) (fun _ _ => ⟨rfl, e0, (by decide : 0 + 0 ≤ _), (by decide : 0 + 0 ≤ _)⟩)
  dsimp only [Pt.U, Pt.locs, Pt.cells, Pt.slots] at X1 l1 y1 z1 st1 hQ1
  have X1 := own_to X1 l1 y1 z1
  obtain ⟨rfl, N1q, e1⟩ := hQ1
  have N1 := Fr.app N0 N1q
  obtain ⟨fs, hr, hrun, hended, hW, hsame⟩ := X1.leave (v := (some (.int (0 : Int32)))) (fun h => by rw [Bd.returns] at h; cases h)
  refine ⟨_, _, pre0 _ ?_, hrun, hended, _, _, rfl, ?_, ⟨_, rfl⟩, hW, hsame.mono (by decide) (by decide)⟩
  · refine XS.iloadN X0.here hx rfl (hb hby d_method_3_0) rfl ?_
    refine XS.ifYes X0.here hx rfl (pc0 := 1) (pc' := 24) rfl (hb hby d_method_3_1) rfl ((if0 _ _).trans (feq (by decide : ¬ ((3 : Int32) = (0 : Int32)))).2) (by decide) (by decide) ?_
    refine XS.iloadN X0.here hx rfl (hb hby d_method_3_24) rfl ?_
    refine XS.iconst X0.here hx rfl (hb hby d_method_3_25) ?_
    refine XS.icmpYes X0.here hx rfl (pc0 := 26) (pc' := 49) rfl (hb hby d_method_3_26) rfl (feq (by decide : ¬ ((3 : Int32) = (1 : Int32)))).2 (by decide) (by decide) ?_
    refine XS.iloadN X0.here hx rfl (hb hby d_method_3_49) rfl ?_
    refine XS.iconst X0.here hx rfl (hb hby d_method_3_50) ?_
    refine XS.icmpYes X0.here hx rfl (pc0 := 51) (pc' := 75) rfl (hb hby d_method_3_51) rfl (feq (by decide : ¬ ((3 : Int32) = (2 : Int32)))).2 (by decide) (by decide) ?_
    refine XS.aloadN X0.here hx rfl (hb hby d_method_3_75) rfl rfl ?_
    refine XS.lload X0.here hx rfl (hb hby d_method_3_76) rfl ?_
    refine st1.trans ?_
    refine XS.pop X1.here hx rfl (hb hby d_method_3_81) rfl rfl ?_
    refine XS.iload X1.here hx rfl (hb hby d_method_3_82) rfl ?_
    refine XS.iload X1.here hx rfl (hb hby d_method_3_84) rfl ?_
    refine XS.ifYes X1.here hx rfl (pc0 := 86) (pc' := 93) rfl (hb hby d_method_3_86) rfl ((if0 _ _).trans (teq (by decide : (0 : Int32) = (0 : Int32))).1) (by decide) (by decide) ?_
    refine XS.iconst X1.here hx rfl (hb hby d_method_3_93) ?_
    refine XS.iand X1.here hx rfl (hb hby d_method_3_94) rfl ?_
    show Steps p.tables e below (T1.setTop (mkF m 95 #[.val (.ref k), .val (.int (3 : Int32)), .val (.ref pA), .val (.ref pB), .val (.long sa), .second, .val (.long sb), .second, .val (.int (0 : Int32)), .val (.int (0 : Int32))] [(.int (0 : Int32))])) _
    exact retI X1 hx Bd.returns (hb hby d_method_3_95) hr
  · show QSN Z k pA mA sa pB mB sb h0 n0 _ T1.heap _
    rw [e1]
    exact ⟨_, rfl, N1, Nat.le_refl _, O0, ⟨Ek, gk, EpA, FpA, EmA, FmA, EpB, FpB, EmB, FmB⟩, Or.inl ⟨rfl, ⟨_, KN1, KN2, KN3⟩⟩⟩
def Q_rc5_name (Z : State) (aE : Addr) (a1 : Addr) (a2 : Addr) (j3 : Int64) (a4 : Addr) (h0 : Heap) (n0 : Nat) (v : Option Value) (h : Heap) (L : List Loc) : Prop := v = some (.ref a2) ∧ Fr n0 L ∧ Keep h0 h [a1] ∧ Exa Z h a1 nKnownO_3 ∧ Fld Z h a1 nKnownO_3 "alsoNamed" nList_8 .null ∧ Fld Z h a1 nKnownO_3 "named" nPredec_7 (.ref a2) ∧ Fld Z h a1 nKnownO_3 "namedSeq" "J" (.long j3)
set_option maxRecDepth 65536 in
set_option maxHeartbeats 40000000 in
theorem rc5_name (l : Launch) (Z : State) (a0 : Array Value) (hw : ∀ d ∈ tables_1, d.before a0 Z = true) (ws : List Jvm.Cond) (cs : Int32) (aE : Addr) (hS : SB Z cs aE) (a1 : Addr) (a2 : Addr) (j3 : Int64) (a4 : Addr) (h0 : Heap) (n0 : Nat) (O0 : Old Z n0 h0) (g_a1 : n0 ≤ a1) (E_a1 : Exa Z h0 a1 nKnownO_3) (F_a1_alsoNamed : Fld Z h0 a1 nKnownO_3 "alsoNamed" nList_8 .null) (F_a1_named : Fld Z h0 a1 nKnownO_3 "named" nPredec_7 (.ref a2)) (F_a1_namedSeq : Fld Z h0 a1 nKnownO_3 "namedSeq" "J" (.long j3)) (E_a2 : Exa Z h0 a2 nPredec_4) (F_a2_id : Fld Z h0 a2 nPredec_4 "id" nMessag_5 (.ref a4)) (E_a4 : Exa Z h0 a4 nMessag_6) (F_a4_seq : Fld Z h0 a4 nMessag_6 "seq" "J" (.long j3)) :
    Met l my_3 prog_22_method_11_code 5 (some (.object nPredec_4)) ws ({ frames := 1, cells := 0, slots := 0, locals := 12 } : Room) #[(.ref a1), (.ref a2)] Z h0 (Q_rc5_name Z aE a1 a2 j3 a4 h0 n0) := by
  refine MetFree.of_bodySF (plainFor_of_name pn_2) hisR ?_
  intro p e s m args below meth c s₁ Bd hml0 hP hK
  obtain ⟨rfl, hZ, hh⟩ := hP
  have hx := Bd.exec
  have hby := Bd.bytes
  have hml : c.maxLocals = 5 := hml0
  have hown : s.vm.findClass nKnownO_3 = some m.cls := findClass_of_methodNamed Bd.named
  have hnm := (name_of_methodNamed Bd.named Bd.method).1
  have X0 : Stand p l e ({ frames := 1, cells := 0, slots := 0, locals := 12 } : Room) s m #[(.ref a1), (.ref a2)] below meth c s₁ [] 0 0 := Stand.of_body Bd
  have e0 : s₁.heap = h0 := by rw [← hh, Bd.state]; rfl
  have N0 := Fr.nil n0
  obtain ⟨f₀, hf₀⟩ : ∃ f, f = entryFrame m #[(.ref a1), (.ref a2)] 5 := ⟨_, rfl⟩
  rw [← hf₀]
  have pre0 : Go p e below s₁ f₀ s₁ (mkF m 0 #[.val (.ref a1), .val (.ref a2), .unset, .unset, .unset] []) := fun t kk => castTop (hf₀.trans (ef_rc5_name m (a1) (a2))) kk
  obtain ⟨cq1, kq1, q1a, q1b, q1c⟩ := isOf hZ e0 (E_a2)
  obtain ⟨_, _, ⟨T1, L1, k1, n1⟩, -, X1, ⟨Lc1, hQ1, l1, y1, z1⟩, st1⟩ := X0.virtualBack hx (y := my_1) (z := my_1) hown (mvT hZ (wq hw 144 rfl)) (mvT hZ (wq hw 145 rfl)) (notFace_of_selects (args := #[]) (mvT hZ (wq hw 147 rfl))) (mvT hZ (wq hw 147 rfl)) (mvT hZ (wq hw 146 rfl)) (by decide) (backOf (W := 0) (rc2_id l Z a0 hw [] cs aE hS a2 a4 h0 n0 O0 F_a2_id) hZ (wq hw 148 rfl) (wq hw 63 rfl) (by decide) (by decide)) q1a q1c (g := (mkF m 1 #[.val (.ref a1), .val (.ref a2), .unset, .unset, .unset] [(.ref a2)])) rfl (by rw [hml]; rfl) (Steps.refl _) (argsL := []) (rest := []) (lenOf pd_0 rfl) rfl (by show 2 * 0 + _ ≤ _; exact Nat.le_of_eq rfl) (hb hby d_prog_22_method_11_1) (fun _ _ => ⟨rfl, e0, (by decide : 0 + 0 ≤ _), (by decide : 0 + 0 ≤ _)⟩)
  dsimp only [Pt.U, Pt.locs, Pt.cells, Pt.slots] at X1 l1 y1 z1 st1 hQ1
  have X1 := own_to X1 l1 y1 z1
  obtain ⟨rfl, N1q, e1⟩ := hQ1
  have N1 := Fr.app N0 N1q
  obtain ⟨cq2, kq2, q2a, q2b, q2c⟩ := isOf hZ e1 (E_a4)
  obtain ⟨_, _, ⟨T2, L2, k2, n2⟩, -, X2, ⟨Lc2, hQ2, l2, y2, z2⟩, st2⟩ := X1.virtualBack hx (y := my_2) (z := my_2) hown (mvT hZ (wq hw 149 rfl)) (mvT hZ (wq hw 150 rfl)) (notFace_of_selects (args := #[]) (mvT hZ (wq hw 152 rfl))) (mvT hZ (wq hw 152 rfl)) (mvT hZ (wq hw 151 rfl)) (by decide) (backOf (W := 0) (rc3_seq l Z a0 hw [] cs aE hS a4 j3 h0 n0 O0 F_a4_seq) hZ (wq hw 153 rfl) (wq hw 66 rfl) (by decide) (by decide)) q2a q2c (g := (mkF m 4 #[.val (.ref a1), .val (.ref a2), .unset, .unset, .unset] [(.ref a4)])) rfl (by rw [hml]; rfl) (Steps.refl _) (argsL := []) (rest := []) (lenOf pd_1 rfl) rfl (by show 2 * 0 + _ ≤ _; exact Nat.le_of_eq rfl) (hb hby d_prog_22_method_11_4) (fun _ _ => ⟨rfl, e1, (by decide : 0 + 0 ≤ _), (by decide : 0 + 0 ≤ _)⟩)
  dsimp only [Pt.U, Pt.locs, Pt.cells, Pt.slots] at X2 l2 y2 z2 st2 hQ2
  have X2 := own_to X2 l2 y2 z2
  obtain ⟨rfl, N2q, e2⟩ := hQ2
  have N2 := Fr.app N1 N2q
  obtain ⟨T3, X3, e3, st3⟩ := getF X2 hx hZ hown (host := "") (Or.inl (wq hw 128 rfl)) Via.refl e2 F_a1_named (g := (mkF m 9 #[.val (.ref a1), .val (.ref a2), .val (.long j3), .second, .unset] [(.ref a1)])) rfl rfl (hb hby d_prog_22_method_11_9)
  obtain ⟨T4, X4, e4, st4⟩ := getF X3 hx hZ hown (host := "") (Or.inl (wq hw 154 rfl)) Via.refl e3 F_a1_namedSeq (g := (mkF m 16 #[.val (.ref a1), .val (.ref a2), .val (.long j3), .second, .unset] [(.ref a1)])) rfl rfl (hb hby d_prog_22_method_11_16)
  obtain ⟨T5, X5, e5, st5⟩ := getF X4 hx hZ hown (host := "") (Or.inl (wq hw 128 rfl)) Via.refl e4 F_a1_named (g := (mkF m 25 #[.val (.ref a1), .val (.ref a2), .val (.long j3), .second, .unset] [(.ref a1)])) rfl rfl (hb hby d_prog_22_method_11_25)
  obtain ⟨T6, h6, X6, e6, W6, st6⟩ := putF X5 hx hZ hown (host := "") (Or.inl (wq hw 128 rfl)) Via.refl e5 F_a1_named E_a1 (Or.inl (wq hw 129 rfl)) (wq hw 32 rfl) (ty := (.object nPredec_4)) (by decide) rfl rfl (g := (mkF m 32 #[.val (.ref a1), .val (.ref a2), .val (.long j3), .second, .val (.ref a2)] [(.ref a2), (.ref a1)])) rfl rfl (hb hby d_prog_22_method_11_32)
  have f7 : Fld Z h6 a1 nKnownO_3 "named" nPredec_7 (.ref a2) := F_a1_named.same W6
  have N6 := Fr.snoc X6 N2 g_a1
  have O8 : Old Z n0 h6 := Old.wr O0 W6 g_a1
  have K9 : Keep h0 h6 [a1] := (Keep.refl h0 [a1]).wr W6 (Or.inl (List.mem_of_getElem? (i := 0) rfl))
  have t10 : Exa Z h6 a1 nKnownO_3 := (E_a1.wr W6)
  have t11 : Fld Z h6 a1 nKnownO_3 "namedSeq" "J" (.long j3) := (F_a1_namedSeq.other W6 (Or.inr (slot_ne (Or.inl (wq hw 155 rfl)) (Or.inl (wq hw 129 rfl)) (by decide) (t := .long) (t' := (.object nPredec_4)) (by decide) (by decide))))
  obtain ⟨T12, h12, X12, e12, W12, st12⟩ := putF X6 hx hZ hown (host := "") (Or.inl (wq hw 154 rfl)) Via.refl e6 t11 t10 (Or.inl (wq hw 155 rfl)) (wq hw 32 rfl) (ty := .long) (by decide) rfl rfl (g := (mkF m 37 #[.val (.ref a1), .val (.ref a2), .val (.long j3), .second, .val (.ref a2)] [(.long j3), (.ref a1)])) rfl rfl (hb hby d_prog_22_method_11_37)
  have f13 : Fld Z h12 a1 nKnownO_3 "namedSeq" "J" (.long j3) := t11.same W12
  have N12 := Fr.snoc X12 N6 g_a1
  have O14 : Old Z n0 h12 := Old.wr O8 W12 g_a1
  have K15 : Keep h0 h12 [a1] := K9.wr W12 (Or.inl (List.mem_of_getElem? (i := 0) rfl))
  have t16 : Exa Z h12 a1 nKnownO_3 := (t10.wr W12)
  have t17 : Fld Z h12 a1 nKnownO_3 "alsoNamed" nList_8 .null := ((F_a1_alsoNamed.other W6 (Or.inr (slot_ne (Or.inl (wq hw 157 rfl)) (Or.inl (wq hw 129 rfl)) (by decide) (t := (.object "java/util/List")) (t' := (.object nPredec_4)) (by decide) (by decide)))).other W12 (Or.inr (slot_ne (Or.inl (wq hw 157 rfl)) (Or.inl (wq hw 155 rfl)) (by decide) (t := (.object "java/util/List")) (t' := .long) (by decide) (by decide))))
  have t18 : Fld Z h12 a1 nKnownO_3 "named" nPredec_7 (.ref a2) := (f7.other W12 (Or.inr (slot_ne (Or.inl (wq hw 129 rfl)) (Or.inl (wq hw 155 rfl)) (by decide) (t := (.object nPredec_4)) (t' := .long) (by decide) (by decide))))
  obtain ⟨fs, hr, hrun, hended, hW, hsame⟩ := X12.leave (v := (some (.ref a2))) (fun h => by rw [Bd.returns] at h; cases h)
  refine ⟨_, _, pre0 _ ?_, hrun, hended, _, _, rfl, ?_, ⟨_, rfl⟩, hW, hsame.mono (by decide) (by decide)⟩
  · refine XS.aloadN X0.here hx rfl (hb hby d_prog_22_method_11_0) rfl rfl ?_
    refine st1.trans ?_
    refine st2.trans ?_
    refine XS.lstoreN X2.here hx rfl (hb hby d_prog_22_method_11_7) rfl (l' := #[.val (.ref a1), .val (.ref a2), .val (.long j3), .second, .unset]) rfl ?_
    refine XS.aloadN X2.here hx rfl (hb hby d_prog_22_method_11_8) rfl rfl ?_
    refine st3 _ ?_
    refine XS.ifnullNo X3.here hx rfl (hb hby d_prog_22_method_11_12) rfl ?_
    refine XS.aloadN X3.here hx rfl (hb hby d_prog_22_method_11_15) rfl rfl ?_
    refine st4 _ ?_
    refine XS.lloadN X4.here hx rfl (hb hby d_prog_22_method_11_19) rfl ?_
    refine XS.lcmp X4.here hx rfl (hb hby d_prog_22_method_11_20) rfl ?_
    refine XS.ifNo X4.here hx rfl (hb hby d_prog_22_method_11_21) rfl ((if0 _ _).trans (teq ((lw_eq _ _).mpr rfl)).2) ?_
    refine XS.aloadN X4.here hx rfl (hb hby d_prog_22_method_11_24) rfl rfl ?_
    refine st5 _ ?_
    refine XS.astore X5.here hx rfl (hb hby d_prog_22_method_11_28) rfl rfl (l' := #[.val (.ref a1), .val (.ref a2), .val (.long j3), .second, .val (.ref a2)]) rfl ?_
    refine XS.aloadN X5.here hx rfl (hb hby d_prog_22_method_11_30) rfl rfl ?_
    refine XS.aloadN X5.here hx rfl (hb hby d_prog_22_method_11_31) rfl rfl ?_
    refine st6 _ ?_
    refine XS.aloadN X6.here hx rfl (hb hby d_prog_22_method_11_35) rfl rfl ?_
    refine XS.lloadN X6.here hx rfl (hb hby d_prog_22_method_11_36) rfl ?_
    refine st12 _ ?_
    refine XS.aload X12.here hx rfl (hb hby d_prog_22_method_11_40) rfl rfl ?_
    exact retOut X12 hx Bd.returns rfl (Or.inr (Or.inr (Or.inr (Or.inr ⟨rfl, rfl, rfl⟩)))) (hb hby d_prog_22_method_11_42) hr
  · show Q_rc5_name Z aE a1 a2 j3 a4 h0 n0 _ T12.heap _
    rw [e12]
    exact ⟨rfl, N12, K15, t16, t17, t18, f13⟩
set_option maxRecDepth 65536 in
set_option maxHeartbeats 40000000 in
theorem rs_N_A_0 (l : Launch) (Z : State) (a0 : Array Value) (hw : ∀ d ∈ tables_1, d.before a0 Z = true) (ws : List Jvm.Cond) (cs : Int32) (aE : Addr) (hS : SB Z cs aE) (k pA mA : Addr) (sa : Int64) (pB mB : Addr) (sb : Int64) (h0 : Heap) (n0 : Nat) (O0 : Old Z n0 h0) (hq : ¬ sa = sb) (hFB : FB Z n0 h0 k pA mA sa pB mB sb) (hKS : KS1 Z h0 k pA sa) :
    Met l my_4 method_3_code 10 (some .int) ws ({ frames := 5, cells := 2, slots := 4, locals := 67 } : Room) #[(.ref k), (.int (0 : Int32)), (.ref pA), (.ref pB), (.long sa), (.long sb), (.int (0 : Int32)), (.int (1 : Int32))] Z h0 (QSN Z k pA mA sa pB mB sb h0 n0) := by
  refine MetFree.of_bodySF (plainFor_of_name pn_3) hisR ?_
  intro p e s m args below meth c s₁ Bd hml0 hP hK
  obtain ⟨rfl, hZ, hh⟩ := hP
  have hx := Bd.exec
  have hby := Bd.bytes
  have hml : c.maxLocals = 10 := hml0
  have hown : s.vm.findClass nKnownO_13 = some m.cls := findClass_of_methodNamed Bd.named
  have hnm := (name_of_methodNamed Bd.named Bd.method).1
  have X0 : Stand p l e ({ frames := 5, cells := 2, slots := 4, locals := 67 } : Room) s m #[(.ref k), (.int (0 : Int32)), (.ref pA), (.ref pB), (.long sa), (.long sb), (.int (0 : Int32)), (.int (1 : Int32))] below meth c s₁ [] 0 0 := Stand.of_body Bd
  have e0 : s₁.heap = h0 := by rw [← hh, Bd.state]; rfl
  have N0 := Fr.nil n0
  obtain ⟨f₀, hf₀⟩ : ∃ f, f = entryFrame m #[(.ref k), (.int (0 : Int32)), (.ref pA), (.ref pB), (.long sa), (.long sb), (.int (0 : Int32)), (.int (1 : Int32))] 10 := ⟨_, rfl⟩
  rw [← hf₀]
  have pre0 : Go p e below s₁ f₀ s₁ (mkF m 0 #[.val (.ref k), .val (.int (0 : Int32)), .val (.ref pA), .val (.ref pB), .val (.long sa), .second, .val (.long sb), .second, .val (.int (0 : Int32)), .val (.int (1 : Int32))] []) := fun t kk => castTop (hf₀.trans (ef_rs_N_A_0 m (k) ((0 : Int32)) (pA) (pB) (sa) (sb) ((0 : Int32)) ((1 : Int32)))) kk
  obtain ⟨Ek, gk, EpA, FpA, EmA, FmA, EpB, FpB, EmB, FmB⟩ := hFB
  obtain ⟨KN1, KN2, KN3⟩ := hKS
  obtain ⟨cq1, kq1, q1a, q1b, q1c⟩ := isOf hZ e0 (Ek)
  obtain ⟨_, _, ⟨T1, L1, k1, n1⟩, -, X1, ⟨Lc1, hQ1, l1, y1, z1⟩, st1⟩ := X0.virtualBack hx (y := my_3) (z := my_3) hown (mvT hZ (wq hw 139 rfl)) (mvT hZ (wq hw 140 rfl)) (notFace_of_selects (args := #[]) (mvT hZ (wq hw 142 rfl))) (mvT hZ (wq hw 142 rfl)) (mvT hZ (wq hw 141 rfl)) (by decide) (backOf (W := 0) (rc5_name l Z a0 hw [] cs aE hS k pA sa mA h0 n0 O0 gk Ek KN3 KN1 KN2 EpA FpA EmA FmA) hZ (wq hw 143 rfl) (wq hw 33 rfl) (by decide) (by decide)) q1a q1c (g := (mkF m 6 #[.val (.ref k), .val (.int (0 : Int32)), .val (.ref pA), .val (.ref pB), .val (.long sa), .second, .val (.long sb), .second, .val (.int (0 : Int32)), .val (.int (1 : Int32))] [(.ref pA), (.ref k)])) rfl (by rw [hml]; rfl) (Steps.refl _) (argsL := [(.ref pA)]) (rest := []) (lenOf pd_2 rfl) rfl (by show 2 * 0 + _ ≤ _; exact Nat.le_of_eq rfl) (hb hby d_method_3_6) (fun _ _ => ⟨rfl, e0, (by decide : 0 + 0 ≤ _), (by decide : 0 + 0 ≤ _)⟩)
  dsimp only [Pt.U, Pt.locs, Pt.cells, Pt.slots] at X1 l1 y1 z1 st1 hQ1
  have X1 := own_to X1 l1 y1 z1
  obtain ⟨rfl, N1q, K1, q1_0, q1_1, q1_2, q1_3⟩ := hQ1
  have N1 := Fr.app N0 N1q
  have O2 : Old Z n0 T1.heap := Old.keep O0 K1 (allS gk all0)
  have K3 : Keep h0 T1.heap [k] := (Keep.refl h0 [k]).trans K1 (allS (Or.inl (List.mem_of_getElem? (i := 0) rfl)) all0)
  have t4 : Exa Z T1.heap pA nPredec_4 := (EpA.keep K1)
  have ne5 : pA ≠ k := Exa.ne EpA Ek (by decide)
  have t6 : Fld Z T1.heap pA nPredec_4 "id" nMessag_5 (.ref mA) := (FpA.keep K1 (ninS ne5 nin0))
  have t7 : Exa Z T1.heap mA nMessag_6 := (EmA.keep K1)
  have ne8 : mA ≠ k := Exa.ne EmA Ek (by decide)
  have t9 : Fld Z T1.heap mA nMessag_6 "seq" "J" (.long sa) := (FmA.keep K1 (ninS ne8 nin0))
  have t10 : Exa Z T1.heap pB nPredec_4 := (EpB.keep K1)
  have ne11 : pB ≠ k := Exa.ne EpB Ek (by decide)
  have t12 : Fld Z T1.heap pB nPredec_4 "id" nMessag_5 (.ref mB) := (FpB.keep K1 (ninS ne11 nin0))
  have t13 : Exa Z T1.heap mB nMessag_6 := (EmB.keep K1)
  have ne14 : mB ≠ k := Exa.ne EmB Ek (by decide)
  have t15 : Fld Z T1.heap mB nMessag_6 "seq" "J" (.long sb) := (FmB.keep K1 (ninS ne14 nin0))
  obtain ⟨fs, hr, hrun, hended, hW, hsame⟩ := X1.leave (v := (some (.int (1 : Int32)))) (fun h => by rw [Bd.returns] at h; cases h)
  refine ⟨_, _, pre0 _ ?_, hrun, hended, _, _, rfl, ?_, ⟨_, rfl⟩, hW, hsame.mono (by decide) (by decide)⟩
  · refine XS.iloadN X0.here hx rfl (hb hby d_method_3_0) rfl ?_
    refine XS.ifNo X0.here hx rfl (hb hby d_method_3_1) rfl ((if0 _ _).trans (teq (by decide : (0 : Int32) = (0 : Int32))).2) ?_
    refine XS.aloadN X0.here hx rfl (hb hby d_method_3_4) rfl rfl ?_
    refine XS.aloadN X0.here hx rfl (hb hby d_method_3_5) rfl rfl ?_
    refine st1.trans ?_
    refine XS.pop X1.here hx rfl (hb hby d_method_3_9) rfl rfl ?_
    refine XS.iload X1.here hx rfl (hb hby d_method_3_10) rfl ?_
    refine XS.iload X1.here hx rfl (hb hby d_method_3_12) rfl ?_
    refine XS.ifYes X1.here hx rfl (pc0 := 14) (pc' := 21) rfl (hb hby d_method_3_14) rfl ((if0 _ _).trans (teq (by decide : (0 : Int32) = (0 : Int32))).1) (by decide) (by decide) ?_
    refine XS.iconst X1.here hx rfl (hb hby d_method_3_21) ?_
    refine XS.ior X1.here hx rfl (hb hby d_method_3_22) rfl ?_
    show Steps p.tables e below (T1.setTop (mkF m 23 #[.val (.ref k), .val (.int (0 : Int32)), .val (.ref pA), .val (.ref pB), .val (.long sa), .second, .val (.long sb), .second, .val (.int (0 : Int32)), .val (.int (1 : Int32))] [(.int (1 : Int32))])) _
    exact retI X1 hx Bd.returns (hb hby d_method_3_23) hr
  · show QSN Z k pA mA sa pB mB sb h0 n0 _ T1.heap _
    exact ⟨_, rfl, N1, K3.1, O2, ⟨q1_0, gk, t4, t6, t7, t9, t10, t12, t13, t15⟩, Or.inr (Or.inl ⟨rfl, ⟨q1_2, q1_3, q1_1⟩⟩)⟩
def Q_rc9_init (Z : State) (aE : Addr) (a1 : Addr) (h0 : Heap) (n0 : Nat) (v : Option Value) (h : Heap) (L : List Loc) : Prop := v = none ∧ Fr n0 L ∧ h = h0
set_option maxRecDepth 65536 in
set_option maxHeartbeats 40000000 in
theorem rc9_init (l : Launch) (Z : State) (a0 : Array Value) (hw : ∀ d ∈ tables_1, d.before a0 Z = true) (ws : List Jvm.Cond) (cs : Int32) (aE : Addr) (hS : SB Z cs aE) (a1 : Addr) (h0 : Heap) (n0 : Nat) (O0 : Old Z n0 h0) (g_a1 : n0 ≤ a1) :
    Met l my_6 jdk_22_method_1_code 1 none ws ({ frames := 1, cells := 0, slots := 0, locals := 12 } : Room) #[(.ref a1)] Z h0 (Q_rc9_init Z aE a1 h0 n0) := by
  refine MetFree.of_bodySF (plainFor_of_name pn_4) hisR ?_
  intro p e s m args below meth c s₁ Bd hml0 hP hK
  obtain ⟨rfl, hZ, hh⟩ := hP
  have hx := Bd.exec
  have hby := Bd.bytes
  have hml : c.maxLocals = 1 := hml0
  have hown : s.vm.findClass "java/util/AbstractCollection" = some m.cls := findClass_of_methodNamed Bd.named
  have hnm := (name_of_methodNamed Bd.named Bd.method).1
  have X0 : Stand p l e ({ frames := 1, cells := 0, slots := 0, locals := 12 } : Room) s m #[(.ref a1)] below meth c s₁ [] 0 0 := Stand.of_body Bd
  have e0 : s₁.heap = h0 := by rw [← hh, Bd.state]; rfl
  have N0 := Fr.nil n0
  obtain ⟨f₀, hf₀⟩ : ∃ f, f = entryFrame m #[(.ref a1)] 1 := ⟨_, rfl⟩
  rw [← hf₀]
  have pre0 : Go p e below s₁ f₀ s₁ (mkF m 0 #[.val (.ref a1)] []) := fun t kk => castTop (hf₀.trans (ef_rc9_init m (a1))) kk
  obtain ⟨T1, X1, e1, st1⟩ := initO X0 hx hZ hown (wq hw 176 rfl) (wq hw 20 rfl) (wq hw 21 rfl) e0 (g := (mkF m 1 #[.val (.ref a1)] [(.ref a1)])) rfl (by rw [hml]; rfl) rfl (hb hby d_jdk_22_method_1_1) (by decide) (W := 0) (by show 2 * 0 + _ ≤ _; exact Nat.le_of_eq rfl) (by decide)
  obtain ⟨fs, hr, hrun, hended, hW, hsame⟩ := X1.leave (v := none) (fun _ => rfl)
  refine ⟨_, _, pre0 _ ?_, hrun, hended, _, _, rfl, ?_, ⟨_, rfl⟩, hW, hsame.mono (by decide) (by decide)⟩
  · refine XS.aloadN X0.here hx rfl (hb hby d_jdk_22_method_1_0) rfl rfl ?_
    refine st1 _ ?_
    exact X1.returnOut hx Bd.returns (hb hby d_jdk_22_method_1_4) hr
  · show Q_rc9_init Z aE a1 h0 n0 _ T1.heap _
    rw [e1]
    exact ⟨rfl, N0, rfl⟩
def Q_rc8_init (Z : State) (aE : Addr) (a1 : Addr) (h0 : Heap) (n0 : Nat) (v : Option Value) (h : Heap) (L : List Loc) : Prop := v = none ∧ Fr n0 L ∧ Keep h0 h [a1] ∧ Exa Z h a1 nArrayL_9 ∧ Fld Z h a1 nArrayL_9 "elementData" nObject_10 .null ∧ Fld Z h a1 nAbstra_11 "modCount" "I" (.int (0 : Int32)) ∧ Fld Z h a1 nArrayL_9 "size" "I" (.int (0 : Int32))
set_option maxRecDepth 65536 in
set_option maxHeartbeats 40000000 in
theorem rc8_init (l : Launch) (Z : State) (a0 : Array Value) (hw : ∀ d ∈ tables_1, d.before a0 Z = true) (ws : List Jvm.Cond) (cs : Int32) (aE : Addr) (hS : SB Z cs aE) (a1 : Addr) (h0 : Heap) (n0 : Nat) (O0 : Old Z n0 h0) (g_a1 : n0 ≤ a1) (E_a1 : Exa Z h0 a1 nArrayL_9) (F_a1_elementData : Fld Z h0 a1 nArrayL_9 "elementData" nObject_10 .null) (F_a1_modCount : Fld Z h0 a1 nAbstra_11 "modCount" "I" (.int (0 : Int32))) (F_a1_size : Fld Z h0 a1 nArrayL_9 "size" "I" (.int (0 : Int32))) :
    Met l my_7 jdk_39_method_1_code 1 none ws ({ frames := 2, cells := 0, slots := 0, locals := 24 } : Room) #[(.ref a1)] Z h0 (Q_rc8_init Z aE a1 h0 n0) := by
  refine MetFree.of_bodySF (plainFor_of_name pn_5) hisR ?_
  intro p e s m args below meth c s₁ Bd hml0 hP hK
  obtain ⟨rfl, hZ, hh⟩ := hP
  have hx := Bd.exec
  have hby := Bd.bytes
  have hml : c.maxLocals = 1 := hml0
  have hown : s.vm.findClass nAbstra_11 = some m.cls := findClass_of_methodNamed Bd.named
  have hnm := (name_of_methodNamed Bd.named Bd.method).1
  have X0 : Stand p l e ({ frames := 2, cells := 0, slots := 0, locals := 24 } : Room) s m #[(.ref a1)] below meth c s₁ [] 0 0 := Stand.of_body Bd
  have e0 : s₁.heap = h0 := by rw [← hh, Bd.state]; rfl
  have N0 := Fr.nil n0
  obtain ⟨f₀, hf₀⟩ : ∃ f, f = entryFrame m #[(.ref a1)] 1 := ⟨_, rfl⟩
  rw [← hf₀]
  have pre0 : Go p e below s₁ f₀ s₁ (mkF m 0 #[.val (.ref a1)] []) := fun t kk => castTop (hf₀.trans (ef_rc8_init m (a1))) kk
  obtain ⟨_, _, ⟨T1, L1, k1, n1⟩, -, X1, ⟨Lc1, hQ1, l1, y1, z1⟩, st1⟩ := X0.specialBack hx (y := my_6) rfl hown (mvT hZ (wq hw 170 rfl)) (mvT hZ (wq hw 171 rfl)) (mvT hZ (wq hw 175 rfl)) (by decide) (backOf (W := 0) (rc9_init l Z a0 hw [] cs aE hS a1 h0 n0 O0 g_a1) hZ (wq hw 175 rfl) (wq hw 174 rfl) (by decide) (by decide)) (g := (mkF m 1 #[.val (.ref a1)] [(.ref a1)])) rfl (by rw [hml]; rfl) (Steps.refl _) (a := a1) (argsL := []) (rest := []) (lenOf pd_4 rfl) rfl (by show 2 * 0 + _ ≤ _; exact Nat.le_of_eq rfl) (hb hby d_jdk_39_method_1_1) (fun _ _ => ⟨rfl, e0, (by decide : 0 + 0 ≤ _), (by decide : 0 + 0 ≤ _)⟩)
  dsimp only [Pt.U, Pt.locs, Pt.cells, Pt.slots] at X1 l1 y1 z1 st1 hQ1
  have X1 := own_to X1 l1 y1 z1
  obtain ⟨rfl, N1q, e1⟩ := hQ1
  have N1 := Fr.app N0 N1q
  obtain ⟨T2, h2, X2, e2, W2, st2⟩ := putF X1 hx hZ hown (host := "") (Or.inl (wq hw 177 rfl)) Via.refl e1 F_a1_modCount E_a1 (Or.inl (wq hw 178 rfl)) (wq hw 159 rfl) (ty := .int) (by decide) rfl rfl (g := (mkF m 6 #[.val (.ref a1)] [(.int (0 : Int32)), (.ref a1)])) rfl rfl (hb hby d_jdk_39_method_1_6)
  have f3 : Fld Z h2 a1 nAbstra_11 "modCount" "I" (.int (0 : Int32)) := F_a1_modCount.same W2
  have N2 := Fr.snoc X2 N1 g_a1
  have O4 : Old Z n0 h2 := Old.wr O0 W2 g_a1
  have K5 : Keep h0 h2 [a1] := (Keep.refl h0 [a1]).wr W2 (Or.inl (List.mem_of_getElem? (i := 0) rfl))
  have t6 : Exa Z h2 a1 nArrayL_9 := (E_a1.wr W2)
  have t7 : Fld Z h2 a1 nArrayL_9 "elementData" nObject_10 .null := (F_a1_elementData.other W2 (Or.inr (slot_ne (Or.inl (wq hw 182 rfl)) (Or.inl (wq hw 178 rfl)) (by decide) (t := (.array (.object nObject_12))) (t' := .int) (by decide) (by decide))))
  have t8 : Fld Z h2 a1 nArrayL_9 "size" "I" (.int (0 : Int32)) := (F_a1_size.other W2 (Or.inr (slot_ne (Or.inl (wq hw 193 rfl)) (Or.inl (wq hw 178 rfl)) (by decide) (t := .int) (t' := .int) (by decide) (by decide))))
  obtain ⟨fs, hr, hrun, hended, hW, hsame⟩ := X2.leave (v := none) (fun _ => rfl)
  refine ⟨_, _, pre0 _ ?_, hrun, hended, _, _, rfl, ?_, ⟨_, rfl⟩, hW, hsame.mono (by decide) (by decide)⟩
  · refine XS.aloadN X0.here hx rfl (hb hby d_jdk_39_method_1_0) rfl rfl ?_
    refine st1.trans ?_
    refine XS.aloadN X1.here hx rfl (hb hby d_jdk_39_method_1_4) rfl rfl ?_
    refine XS.iconst X1.here hx rfl (hb hby d_jdk_39_method_1_5) ?_
    refine st2 _ ?_
    exact X2.returnOut hx Bd.returns (hb hby d_jdk_39_method_1_9) hr
  · show Q_rc8_init Z aE a1 h0 n0 _ T2.heap _
    rw [e2]
    exact ⟨rfl, N2, K5, t6, t7, f3, t8⟩
def Q_rc7_init (Z : State) (aE : Addr) (a1 : Addr) (h0 : Heap) (n0 : Nat) (v : Option Value) (h : Heap) (L : List Loc) : Prop := ∃ (b4 : Addr), ∃ (k4 : ClassId), v = none ∧ Fr n0 L ∧ Keep h0 h [a1] ∧ h0.size ≤ b4 ∧ Exa Z h a1 nArrayL_9 ∧ Fld Z h a1 nArrayL_9 "elementData" nObject_10 (.ref b4) ∧ Fld Z h a1 nAbstra_11 "modCount" "I" (.int (0 : Int32)) ∧ Fld Z h a1 nArrayL_9 "size" "I" (.int (0 : Int32)) ∧ Arv Z h b4 k4 (.object nObject_12) (1 : Int32) [.null] .null ∧ Ovr Z k4 nObject_12
set_option maxRecDepth 65536 in
set_option maxHeartbeats 40000000 in
theorem rc7_init (l : Launch) (Z : State) (a0 : Array Value) (hw : ∀ d ∈ tables_1, d.before a0 Z = true) (ws : List Jvm.Cond) (cs : Int32) (aE : Addr) (hS : SB Z cs aE) (a1 : Addr) (h0 : Heap) (n0 : Nat) (O0 : Old Z n0 h0) (g_a1 : n0 ≤ a1) (E_a1 : Exa Z h0 a1 nArrayL_9) (F_a1_elementData : Fld Z h0 a1 nArrayL_9 "elementData" nObject_10 .null) (F_a1_modCount : Fld Z h0 a1 nAbstra_11 "modCount" "I" (.int (0 : Int32))) (F_a1_size : Fld Z h0 a1 nArrayL_9 "size" "I" (.int (0 : Int32))) :
    Met l my_8 jdk_38_method_1_code 2 none ws ({ frames := 3, cells := 1, slots := 1, locals := 36 } : Room) #[(.ref a1), (.int (1 : Int32))] Z h0 (Q_rc7_init Z aE a1 h0 n0) := by
  refine MetFree.of_bodySF (plainFor_of_name pn_6) hisR ?_
  intro p e s m args below meth c s₁ Bd hml0 hP hK
  obtain ⟨rfl, hZ, hh⟩ := hP
  have hx := Bd.exec
  have hby := Bd.bytes
  have hml : c.maxLocals = 2 := hml0
  have hown : s.vm.findClass nArrayL_9 = some m.cls := findClass_of_methodNamed Bd.named
  have hnm := (name_of_methodNamed Bd.named Bd.method).1
  have X0 : Stand p l e ({ frames := 3, cells := 1, slots := 1, locals := 36 } : Room) s m #[(.ref a1), (.int (1 : Int32))] below meth c s₁ [] 0 0 := Stand.of_body Bd
  have e0 : s₁.heap = h0 := by rw [← hh, Bd.state]; rfl
  have N0 := Fr.nil n0
  obtain ⟨f₀, hf₀⟩ : ∃ f, f = entryFrame m #[(.ref a1), (.int (1 : Int32))] 2 := ⟨_, rfl⟩
  rw [← hf₀]
  have pre0 : Go p e below s₁ f₀ s₁ (mkF m 0 #[.val (.ref a1), .val (.int (1 : Int32))] []) := fun t kk => castTop (hf₀.trans (ef_rc7_init m (a1) ((1 : Int32)))) kk
  obtain ⟨_, _, ⟨T1, L1, k1, n1⟩, -, X1, ⟨Lc1, hQ1, l1, y1, z1⟩, st1⟩ := X0.specialBack hx (y := my_7) rfl hown (mvT hZ (wq hw 164 rfl)) (mvT hZ (wq hw 165 rfl)) (mvT hZ (wq hw 169 rfl)) (by decide) (backOf (W := 0) (rc8_init l Z a0 hw [] cs aE hS a1 h0 n0 O0 g_a1 E_a1 F_a1_elementData F_a1_modCount F_a1_size) hZ (wq hw 169 rfl) (wq hw 168 rfl) (by decide) (by decide)) (g := (mkF m 1 #[.val (.ref a1), .val (.int (1 : Int32))] [(.ref a1)])) rfl (by rw [hml]; rfl) (Steps.refl _) (a := a1) (argsL := []) (rest := []) (lenOf pd_4 rfl) rfl (by show 2 * 0 + _ ≤ _; exact Nat.le_of_eq rfl) (hb hby d_jdk_38_method_1_1) (fun _ _ => ⟨rfl, e0, (by decide : 0 + 0 ≤ _), (by decide : 0 + 0 ≤ _)⟩)
  dsimp only [Pt.U, Pt.locs, Pt.cells, Pt.slots] at X1 l1 y1 z1 st1 hQ1
  have X1 := own_to X1 l1 y1 z1
  obtain ⟨rfl, N1q, K1, q1_0, q1_1, q1_2, q1_3⟩ := hQ1
  have N1 := Fr.app N0 N1q
  have O2 : Old Z n0 T1.heap := Old.keep O0 K1 (allS g_a1 all0)
  have K3 : Keep h0 T1.heap [a1] := (Keep.refl h0 [a1]).trans K1 (allS (Or.inl (List.mem_of_getElem? (i := 0) rfl)) all0)
  obtain ⟨T4, h4, k4, X4, e4, E4, A4, O4', st4⟩ := newR X1 hx hZ hown (wq hw 179 rfl) (wq hw 180 rfl) rfl (g := (mkF m 10 #[.val (.ref a1), .val (.int (1 : Int32))] [(.int (1 : Int32)), (.ref a1)])) rfl (hb hby d_jdk_38_method_1_10) rfl (by decide) (cap := 1) (by decide) (by decide) (by decide) (by decide)
  obtain ⟨b4, gb4⟩ : ∃ z, z = T1.heap.size := ⟨_, rfl⟩
  rw [← gb4] at A4 st4
  have ne5 : a1 ≠ b4 := Nat.ne_of_lt (Nat.lt_of_lt_of_le q1_0.lt (Nat.le_of_eq gb4.symm))
  have g6 : n0 ≤ b4 := Nat.le_trans (Nat.le_of_eq O2.1.symm) (Nat.le_trans O2.2.1 (Nat.le_of_eq gb4.symm))
  have s7 : h0.size ≤ b4 := Nat.le_trans K3.1 (Nat.le_of_eq gb4.symm)
  have O8 : Old Z n0 h4 := Old.ext O2 E4
  have K9 : Keep h0 h4 [a1] := K3.ext E4
  have v10 : Arv Z h4 b4 k4 (.object nObject_12) (1 : Int32) [.null] .null := (Arv.new A4 (by decide)).pad (pad_rep [] .null 1)
  have t11 : Exa Z h4 a1 nArrayL_9 := (q1_0.ext E4)
  have t12 : Fld Z h4 a1 nArrayL_9 "elementData" nObject_10 .null := (q1_1.ext E4)
  obtain ⟨T13, h13, X13, e13, W13, st13⟩ := putF X4 hx hZ hown (host := "") (Or.inl (wq hw 181 rfl)) Via.refl e4 t12 t11 (Or.inl (wq hw 182 rfl)) (wq hw 159 rfl) (ty := (.array (.object nObject_12))) (by decide) rfl rfl (g := (mkF m 13 #[.val (.ref a1), .val (.int (1 : Int32))] [(.ref b4), (.ref a1)])) rfl rfl (hb hby d_jdk_38_method_1_13)
  have f14 : Fld Z h13 a1 nArrayL_9 "elementData" nObject_10 (.ref b4) := t12.same W13
  have N13 := Fr.snoc X13 N1 g_a1
  have O15 : Old Z n0 h13 := Old.wr O8 W13 g_a1
  have K16 : Keep h0 h13 [a1] := K9.wr W13 (Or.inl (List.mem_of_getElem? (i := 0) rfl))
  have t17 : Exa Z h13 a1 nArrayL_9 := (t11.wr W13)
  have t18 : Fld Z h13 a1 nAbstra_11 "modCount" "I" (.int (0 : Int32)) := ((q1_2.ext E4).other W13 (Or.inr (slot_ne (Or.inl (wq hw 178 rfl)) (Or.inl (wq hw 182 rfl)) (by decide) (t := .int) (t' := (.array (.object nObject_12))) (by decide) (by decide))))
  have t19 : Fld Z h13 a1 nArrayL_9 "size" "I" (.int (0 : Int32)) := ((q1_3.ext E4).other W13 (Or.inr (slot_ne (Or.inl (wq hw 193 rfl)) (Or.inl (wq hw 182 rfl)) (by decide) (t := .int) (t' := (.array (.object nObject_12))) (by decide) (by decide))))
  have t20 : Arv Z h13 b4 k4 (.object nObject_12) (1 : Int32) [.null] .null := (v10.other W13 (Ne.symm ne5))
  obtain ⟨fs, hr, hrun, hended, hW, hsame⟩ := X13.leave (v := none) (fun _ => rfl)
  refine ⟨_, _, pre0 _ ?_, hrun, hended, _, _, rfl, ?_, ⟨_, rfl⟩, hW, hsame.mono (by decide) (by decide)⟩
  · refine XS.aloadN X0.here hx rfl (hb hby d_jdk_38_method_1_0) rfl rfl ?_
    refine st1.trans ?_
    refine XS.iloadN X1.here hx rfl (hb hby d_jdk_38_method_1_4) rfl ?_
    refine XS.ifNo X1.here hx rfl (hb hby d_jdk_38_method_1_5) rfl ((if0 _ _).trans (tlt (by decide : (0 : Int32) < (1 : Int32))).2.2.2) ?_
    refine XS.aloadN X1.here hx rfl (hb hby d_jdk_38_method_1_8) rfl rfl ?_
    refine XS.iloadN X1.here hx rfl (hb hby d_jdk_38_method_1_9) rfl ?_
    refine st4 _ ?_
    refine st13 _ ?_
    refine XS.goto X13.here hx rfl (pc0 := 16) (pc' := 60) rfl (hb hby d_jdk_38_method_1_16) (by decide) (by decide) ?_
    exact X13.returnOut hx Bd.returns (hb hby d_jdk_38_method_1_60) hr
  · show Q_rc7_init Z aE a1 h0 n0 _ T13.heap _
    rw [e13]
    exact ⟨b4, k4, rfl, N13, K16, s7, t17, f14, t18, t19, t20, O4'⟩
def Q_rc10_size (Z : State) (aE : Addr) (a1 : Addr) (h0 : Heap) (n0 : Nat) (v : Option Value) (h : Heap) (L : List Loc) : Prop := v = some (.int (0 : Int32)) ∧ Fr n0 L ∧ h = h0
set_option maxRecDepth 65536 in
set_option maxHeartbeats 40000000 in
theorem rc10_size (l : Launch) (Z : State) (a0 : Array Value) (hw : ∀ d ∈ tables_1, d.before a0 Z = true) (ws : List Jvm.Cond) (cs : Int32) (aE : Addr) (hS : SB Z cs aE) (a1 : Addr) (h0 : Heap) (n0 : Nat) (O0 : Old Z n0 h0) (g_a1 : n0 ≤ a1) (F_a1_size : Fld Z h0 a1 nArrayL_9 "size" "I" (.int (0 : Int32))) :
    Met l my_9 jdk_38_method_8_code 1 (some .int) ws ({ frames := 0, cells := 0, slots := 0, locals := 0 } : Room) #[(.ref a1)] Z h0 (Q_rc10_size Z aE a1 h0 n0) := by
  refine MetFree.of_bodySF (plainFor_of_name pn_6) hisR ?_
  intro p e s m args below meth c s₁ Bd hml0 hP hK
  obtain ⟨rfl, hZ, hh⟩ := hP
  have hx := Bd.exec
  have hby := Bd.bytes
  have hml : c.maxLocals = 1 := hml0
  have hown : s.vm.findClass nArrayL_9 = some m.cls := findClass_of_methodNamed Bd.named
  have hnm := (name_of_methodNamed Bd.named Bd.method).1
  have X0 : Stand p l e ({ frames := 0, cells := 0, slots := 0, locals := 0 } : Room) s m #[(.ref a1)] below meth c s₁ [] 0 0 := Stand.of_body Bd
  have e0 : s₁.heap = h0 := by rw [← hh, Bd.state]; rfl
  have N0 := Fr.nil n0
  obtain ⟨f₀, hf₀⟩ : ∃ f, f = entryFrame m #[(.ref a1)] 1 := ⟨_, rfl⟩
  rw [← hf₀]
  have pre0 : Go p e below s₁ f₀ s₁ (mkF m 0 #[.val (.ref a1)] []) := fun t kk => castTop (hf₀.trans (ef_rc10_size m (a1))) kk
  obtain ⟨T1, X1, e1, st1⟩ := getF X0 hx hZ hown (host := "") (Or.inl (wq hw 192 rfl)) Via.refl e0 F_a1_size (g := (mkF m 1 #[.val (.ref a1)] [(.ref a1)])) rfl rfl (hb hby d_jdk_38_method_8_1)
  obtain ⟨fs, hr, hrun, hended, hW, hsame⟩ := X1.leave (v := (some (.int (0 : Int32)))) (fun h => by rw [Bd.returns] at h; cases h)
  refine ⟨_, _, pre0 _ ?_, hrun, hended, _, _, rfl, ?_, ⟨_, rfl⟩, hW, hsame.mono (by decide) (by decide)⟩
  · refine XS.aloadN X0.here hx rfl (hb hby d_jdk_38_method_8_0) rfl rfl ?_
    refine st1 _ ?_
    exact retI X1 hx Bd.returns (hb hby d_jdk_38_method_8_4) hr
  · show Q_rc10_size Z aE a1 h0 n0 _ T1.heap _
    rw [e1]
    exact ⟨rfl, N0, rfl⟩
def Q_rc12_add (Z : State) (aE : Addr) (a1 : Addr) (a2 : Addr) (a3 : Addr) (cid5 : ClassId) (h0 : Heap) (n0 : Nat) (v : Option Value) (h : Heap) (L : List Loc) : Prop := v = none ∧ Fr n0 L ∧ Keep h0 h [a3, a1] ∧ Arv Z h a3 cid5 (.object nObject_12) (1 : Int32) [(.ref a2)] .null ∧ Ovr Z cid5 nObject_12 ∧ Exa Z h a1 nArrayL_9 ∧ Fld Z h a1 nArrayL_9 "elementData" nObject_10 (.ref a3) ∧ Fld Z h a1 nAbstra_11 "modCount" "I" (.int (1 : Int32)) ∧ Fld Z h a1 nArrayL_9 "size" "I" (.int (1 : Int32))
set_option maxRecDepth 65536 in
set_option maxHeartbeats 40000000 in
theorem rc12_add (l : Launch) (Z : State) (a0 : Array Value) (hw : ∀ d ∈ tables_1, d.before a0 Z = true) (ws : List Jvm.Cond) (cs : Int32) (aE : Addr) (hS : SB Z cs aE) (a1 : Addr) (a2 : Addr) (a3 : Addr) (cid5 : ClassId) (h0 : Heap) (n0 : Nat) (O0 : Old Z n0 h0) (g_a1 : n0 ≤ a1) (g_a3 : n0 ≤ a3) (E_a1 : Exa Z h0 a1 nArrayL_9) (F_a1_elementData : Fld Z h0 a1 nArrayL_9 "elementData" nObject_10 (.ref a3)) (F_a1_modCount : Fld Z h0 a1 nAbstra_11 "modCount" "I" (.int (1 : Int32))) (F_a1_size : Fld Z h0 a1 nArrayL_9 "size" "I" (.int (0 : Int32))) (E_a2 : Exa Z h0 a2 nPredec_4) (V_a3 : Arv Z h0 a3 cid5 (.object nObject_12) (1 : Int32) [.null] .null) (Ov_a3 : Ovr Z cid5 nObject_12) :
    Met l my_10 jdk_38_method_24_code 4 none ws ({ frames := 0, cells := 0, slots := 0, locals := 0 } : Room) #[(.ref a1), (.ref a2), (.ref a3), (.int (0 : Int32))] Z h0 (Q_rc12_add Z aE a1 a2 a3 cid5 h0 n0) := by
  refine MetFree.of_bodySF (plainFor_of_name pn_6) hisR ?_
  intro p e s m args below meth c s₁ Bd hml0 hP hK
  obtain ⟨rfl, hZ, hh⟩ := hP
  have hx := Bd.exec
  have hby := Bd.bytes
  have hml : c.maxLocals = 4 := hml0
  have hown : s.vm.findClass nArrayL_9 = some m.cls := findClass_of_methodNamed Bd.named
  have hnm := (name_of_methodNamed Bd.named Bd.method).1
  have X0 : Stand p l e ({ frames := 0, cells := 0, slots := 0, locals := 0 } : Room) s m #[(.ref a1), (.ref a2), (.ref a3), (.int (0 : Int32))] below meth c s₁ [] 0 0 := Stand.of_body Bd
  have e0 : s₁.heap = h0 := by rw [← hh, Bd.state]; rfl
  have N0 := Fr.nil n0
  obtain ⟨f₀, hf₀⟩ : ∃ f, f = entryFrame m #[(.ref a1), (.ref a2), (.ref a3), (.int (0 : Int32))] 4 := ⟨_, rfl⟩
  rw [← hf₀]
  have pre0 : Go p e below s₁ f₀ s₁ (mkF m 0 #[.val (.ref a1), .val (.ref a2), .val (.ref a3), .val (.int (0 : Int32))] []) := fun t kk => castTop (hf₀.trans (ef_rc12_add m (a1) (a2) (a3) ((0 : Int32)))) kk
  obtain ⟨c1, Ar1, q1, S1, M1, Hh1, G1⟩ := (id V_a3)
  obtain ⟨c2, Ar2, q2, S2, M2, Hh2, G2⟩ := (id V_a3)
  have hin2 : ¬ ((0 : Int32) < 0 ∨ c2.slots.size ≤ ((0 : Int32)).toNatClampNeg) := inb_of S2 ⟨by decide, by decide⟩
  obtain ⟨T3, h3, X3, e3, W3, st3⟩ := stR X0 hx hZ e0 Ar2 (j := (0 : Int32)) hin2 rfl (Sto.ofV Ar2 q2 Ov_a3 (Ins.of_exa E_a2 (wq hw 209 rfl))) (g := (mkF m 14 #[.val (.ref a1), .val (.ref a2), .val (.ref a3), .val (.int (0 : Int32))] [(.ref a2), (.int (0 : Int32)), (.ref a3)])) rfl rfl (hb hby d_jdk_38_method_24_14)
  have v4 : Arv Z h3 a3 cid5 (.object nObject_12) (1 : Int32) [(.ref a2)] .null := Arv.set Ar2 q2 S2 M2 Hh2 G2 rfl W3 0 rfl (Nat.le_of_ble_eq_true rfl)
  have N3 := Fr.snoc X3 N0 g_a3
  have O5 : Old Z n0 h3 := Old.wr O0 W3 g_a3
  have K6 : Keep h0 h3 [a3, a1] := (Keep.refl h0 [a3, a1]).wr W3 (Or.inl (List.mem_of_getElem? (i := 0) rfl))
  have t7 : Exa Z h3 a1 nArrayL_9 := (E_a1.wr W3)
  have ne8 : a1 ≠ a3 := Exa.neArv E_a1 V_a3 (wq hw 159 rfl)
  have t9 : Fld Z h3 a1 nArrayL_9 "size" "I" (.int (0 : Int32)) := (F_a1_size.other W3 (Or.inl ne8))
  obtain ⟨T10, h10, X10, e10, W10, st10⟩ := putF X3 hx hZ hown (host := "") (Or.inl (wq hw 192 rfl)) Via.refl e3 t9 t7 (Or.inl (wq hw 193 rfl)) (wq hw 159 rfl) (ty := .int) (by decide) rfl rfl (g := (mkF m 19 #[.val (.ref a1), .val (.ref a2), .val (.ref a3), .val (.int (0 : Int32))] [(.int (1 : Int32)), (.ref a1)])) rfl rfl (hb hby d_jdk_38_method_24_19)
  have f11 : Fld Z h10 a1 nArrayL_9 "size" "I" (.int (1 : Int32)) := t9.same W10
  have N10 := Fr.snoc X10 N3 g_a1
  have O12 : Old Z n0 h10 := Old.wr O5 W10 g_a1
  have K13 : Keep h0 h10 [a3, a1] := K6.wr W10 (Or.inl (List.mem_of_getElem? (i := 1) rfl))
  have t14 : Arv Z h10 a3 cid5 (.object nObject_12) (1 : Int32) [(.ref a2)] .null := (v4.other W10 (Ne.symm ne8))
  have t15 : Exa Z h10 a1 nArrayL_9 := (t7.wr W10)
  have t16 : Fld Z h10 a1 nArrayL_9 "elementData" nObject_10 (.ref a3) := ((F_a1_elementData.other W3 (Or.inl ne8)).other W10 (Or.inr (slot_ne (Or.inl (wq hw 182 rfl)) (Or.inl (wq hw 193 rfl)) (by decide) (t := (.array (.object nObject_12))) (t' := .int) (by decide) (by decide))))
  have t17 : Fld Z h10 a1 nAbstra_11 "modCount" "I" (.int (1 : Int32)) := ((F_a1_modCount.other W3 (Or.inl ne8)).other W10 (Or.inr (slot_ne (Or.inl (wq hw 178 rfl)) (Or.inl (wq hw 193 rfl)) (by decide) (t := .int) (t' := .int) (by decide) (by decide))))
  obtain ⟨fs, hr, hrun, hended, hW, hsame⟩ := X10.leave (v := none) (fun _ => rfl)
  refine ⟨_, _, pre0 _ ?_, hrun, hended, _, _, rfl, ?_, ⟨_, rfl⟩, hW, hsame.mono (by decide) (by decide)⟩
  · refine XS.iloadN X0.here hx rfl (hb hby d_jdk_38_method_24_0) rfl ?_
    refine XS.aloadN X0.here hx rfl (hb hby d_jdk_38_method_24_1) rfl rfl ?_
    refine X0.arraylength hx (by rw [e0]; exact Ar1.1) (State.isArrayOf_alike hZ.alike Ar1.2.1) (g := (mkF m 2 #[.val (.ref a1), .val (.ref a2), .val (.ref a3), .val (.int (0 : Int32))] [(.ref a3), (.int (0 : Int32))])) rfl rfl (hb hby d_jdk_38_method_24_2) _ ?_
    rw [len_of S1 M1]
    refine XS.icmpYes X0.here hx rfl (pc0 := 3) (pc' := 11) rfl (hb hby d_jdk_38_method_24_3) rfl (feq (by decide : ¬ ((0 : Int32) = (1 : Int32)))).2 (by decide) (by decide) ?_
    refine XS.aloadN X0.here hx rfl (hb hby d_jdk_38_method_24_11) rfl rfl ?_
    refine XS.iloadN X0.here hx rfl (hb hby d_jdk_38_method_24_12) rfl ?_
    refine XS.aloadN X0.here hx rfl (hb hby d_jdk_38_method_24_13) rfl rfl ?_
    refine st3 _ ?_
    refine XS.aloadN X3.here hx rfl (hb hby d_jdk_38_method_24_15) rfl rfl ?_
    refine XS.iloadN X3.here hx rfl (hb hby d_jdk_38_method_24_16) rfl ?_
    refine XS.iconst X3.here hx rfl (hb hby d_jdk_38_method_24_17) ?_
    refine XS.iadd X3.here hx rfl (hb hby d_jdk_38_method_24_18) rfl ?_
    show Steps p.tables e below (T3.setTop (mkF m 19 #[.val (.ref a1), .val (.ref a2), .val (.ref a3), .val (.int (0 : Int32))] [(.int (1 : Int32)), (.ref a1)])) _
    refine st10 _ ?_
    exact X10.returnOut hx Bd.returns (hb hby d_jdk_38_method_24_22) hr
  · show Q_rc12_add Z aE a1 a2 a3 cid5 h0 n0 _ T10.heap _
    rw [e10]
    exact ⟨rfl, N10, K13, t14, Ov_a3, t15, t16, t17, f11⟩
def Q_rc11_add (Z : State) (aE : Addr) (a1 : Addr) (a2 : Addr) (a3 : Addr) (cid5 : ClassId) (h0 : Heap) (n0 : Nat) (v : Option Value) (h : Heap) (L : List Loc) : Prop := v = some (.int (1 : Int32)) ∧ Fr n0 L ∧ Keep h0 h [a1, a3] ∧ Exa Z h a1 nArrayL_9 ∧ Fld Z h a1 nArrayL_9 "elementData" nObject_10 (.ref a3) ∧ Fld Z h a1 nAbstra_11 "modCount" "I" (.int (1 : Int32)) ∧ Fld Z h a1 nArrayL_9 "size" "I" (.int (1 : Int32)) ∧ Arv Z h a3 cid5 (.object nObject_12) (1 : Int32) [(.ref a2)] .null ∧ Ovr Z cid5 nObject_12
set_option maxRecDepth 65536 in
set_option maxHeartbeats 40000000 in
theorem rc11_add (l : Launch) (Z : State) (a0 : Array Value) (hw : ∀ d ∈ tables_1, d.before a0 Z = true) (ws : List Jvm.Cond) (cs : Int32) (aE : Addr) (hS : SB Z cs aE) (a1 : Addr) (a2 : Addr) (a3 : Addr) (cid5 : ClassId) (h0 : Heap) (n0 : Nat) (O0 : Old Z n0 h0) (g_a1 : n0 ≤ a1) (g_a3 : n0 ≤ a3) (E_a1 : Exa Z h0 a1 nArrayL_9) (F_a1_elementData : Fld Z h0 a1 nArrayL_9 "elementData" nObject_10 (.ref a3)) (F_a1_modCount : Fld Z h0 a1 nAbstra_11 "modCount" "I" (.int (0 : Int32))) (F_a1_size : Fld Z h0 a1 nArrayL_9 "size" "I" (.int (0 : Int32))) (E_a2 : Exa Z h0 a2 nPredec_4) (V_a3 : Arv Z h0 a3 cid5 (.object nObject_12) (1 : Int32) [.null] .null) (Ov_a3 : Ovr Z cid5 nObject_12) :
    Met l my_11 jdk_38_method_25_code 2 (some .boolean) ws ({ frames := 1, cells := 0, slots := 0, locals := 15 } : Room) #[(.ref a1), (.ref a2)] Z h0 (Q_rc11_add Z aE a1 a2 a3 cid5 h0 n0) := by
  refine MetFree.of_bodySF (plainFor_of_name pn_6) hisR ?_
  intro p e s m args below meth c s₁ Bd hml0 hP hK
  obtain ⟨rfl, hZ, hh⟩ := hP
  have hx := Bd.exec
  have hby := Bd.bytes
  have hml : c.maxLocals = 2 := hml0
  have hown : s.vm.findClass nArrayL_9 = some m.cls := findClass_of_methodNamed Bd.named
  have hnm := (name_of_methodNamed Bd.named Bd.method).1
  have X0 : Stand p l e ({ frames := 1, cells := 0, slots := 0, locals := 15 } : Room) s m #[(.ref a1), (.ref a2)] below meth c s₁ [] 0 0 := Stand.of_body Bd
  have e0 : s₁.heap = h0 := by rw [← hh, Bd.state]; rfl
  have N0 := Fr.nil n0
  obtain ⟨f₀, hf₀⟩ : ∃ f, f = entryFrame m #[(.ref a1), (.ref a2)] 2 := ⟨_, rfl⟩
  rw [← hf₀]
  have pre0 : Go p e below s₁ f₀ s₁ (mkF m 0 #[.val (.ref a1), .val (.ref a2)] []) := fun t kk => castTop (hf₀.trans (ef_rc11_add m (a1) (a2))) kk
  obtain ⟨T1, X1, e1, st1⟩ := getF X0 hx hZ hown (host := "") (Or.inl (wq hw 202 rfl)) (Via.of (wq hw 203 rfl)) e0 F_a1_modCount (g := (mkF m 2 #[.val (.ref a1), .val (.ref a2)] [(.ref a1), (.ref a1)])) rfl rfl (hb hby d_jdk_38_method_25_2)
  obtain ⟨T2, h2, X2, e2, W2, st2⟩ := putF X1 hx hZ hown (host := "") (Or.inl (wq hw 202 rfl)) (Via.of (wq hw 203 rfl)) e1 F_a1_modCount E_a1 (Or.inl (wq hw 178 rfl)) (wq hw 159 rfl) (ty := .int) (by decide) rfl rfl (g := (mkF m 7 #[.val (.ref a1), .val (.ref a2)] [(.int (1 : Int32)), (.ref a1)])) rfl rfl (hb hby d_jdk_38_method_25_7)
  have f3 : Fld Z h2 a1 nAbstra_11 "modCount" "I" (.int (1 : Int32)) := F_a1_modCount.same W2
  have N2 := Fr.snoc X2 N0 g_a1
  have O4 : Old Z n0 h2 := Old.wr O0 W2 g_a1
  have K5 : Keep h0 h2 [a1, a3] := (Keep.refl h0 [a1, a3]).wr W2 (Or.inl (List.mem_of_getElem? (i := 0) rfl))
  have t6 : Fld Z h2 a1 nArrayL_9 "elementData" nObject_10 (.ref a3) := (F_a1_elementData.other W2 (Or.inr (slot_ne (Or.inl (wq hw 182 rfl)) (Or.inl (wq hw 178 rfl)) (by decide) (t := (.array (.object nObject_12))) (t' := .int) (by decide) (by decide))))
  obtain ⟨T7, X7, e7, st7⟩ := getF X2 hx hZ hown (host := "") (Or.inl (wq hw 181 rfl)) Via.refl e2 t6 (g := (mkF m 13 #[.val (.ref a1), .val (.ref a2)] [(.ref a1), (.ref a2), (.ref a1)])) rfl rfl (hb hby d_jdk_38_method_25_13)
  have t8 : Fld Z h2 a1 nArrayL_9 "size" "I" (.int (0 : Int32)) := (F_a1_size.other W2 (Or.inr (slot_ne (Or.inl (wq hw 193 rfl)) (Or.inl (wq hw 178 rfl)) (by decide) (t := .int) (t' := .int) (by decide) (by decide))))
  obtain ⟨T9, X9, e9, st9⟩ := getF X7 hx hZ hown (host := "") (Or.inl (wq hw 192 rfl)) Via.refl e7 t8 (g := (mkF m 17 #[.val (.ref a1), .val (.ref a2)] [(.ref a1), (.ref a3), (.ref a2), (.ref a1)])) rfl rfl (hb hby d_jdk_38_method_25_17)
  have t10 : Exa Z h2 a1 nArrayL_9 := (E_a1.wr W2)
  have t11 : Exa Z h2 a2 nPredec_4 := (E_a2.wr W2)
  have ne12 : a3 ≠ a1 := Ne.symm (Exa.neArv E_a1 V_a3 (wq hw 159 rfl))
  have t13 : Arv Z h2 a3 cid5 (.object nObject_12) (1 : Int32) [.null] .null := (V_a3.other W2 ne12)
  obtain ⟨cq14, q14, q14'⟩ := (t10).cell
  obtain ⟨_, _, ⟨T14, L14, k14, n14⟩, -, X14, ⟨Lc14, hQ14, l14, y14, z14⟩, st14⟩ := X9.privateBack hx (y := my_10) hown (mvT hZ (wq hw 204 rfl)) (mvT hZ (wq hw 205 rfl)) (mvT hZ (wq hw 207 rfl)) (Cond.privateMethod_at (mvP hZ (wq hw 206 rfl) (args := #[]))) (mvT hZ (wq hw 208 rfl)) (by decide) (backOf (W := 0) (rc12_add l Z a0 hw [] cs aE hS a1 a2 a3 cid5 h2 n0 O4 g_a1 g_a3 t10 t6 f3 t8 t11 t13 Ov_a3) hZ (wq hw 208 rfl) (wq hw 160 rfl) (by decide) (by decide)) (g := (mkF m 20 #[.val (.ref a1), .val (.ref a2)] [(.int (0 : Int32)), (.ref a3), (.ref a2), (.ref a1)])) rfl (by rw [hml]; rfl) (Steps.refl _) (a := a1) (by rw [e9]; exact q14) q14' (argsL := [(.ref a2), (.ref a3), (.int (0 : Int32))]) (rest := []) (lenOf pd_7 rfl) rfl (by show 2 * 0 + _ ≤ _; exact Nat.le_of_eq rfl) (hb hby d_jdk_38_method_25_20) (fun _ _ => ⟨rfl, e9, (by decide : 0 + 0 ≤ _), (by decide : 0 + 0 ≤ _)⟩)
  dsimp only [Pt.U, Pt.locs, Pt.cells, Pt.slots] at X14 l14 y14 z14 st14 hQ14
  have X14 := own_to X14 l14 y14 z14
  obtain ⟨rfl, N14q, K14, q14_0, q14_1, q14_2, q14_3, q14_4, q14_5⟩ := hQ14
  have N14 := Fr.app N2 N14q
  have O15 : Old Z n0 T14.heap := Old.keep O4 K14 (allS g_a3 (allS g_a1 all0))
  have K16 : Keep h0 T14.heap [a1, a3] := K5.trans K14 (allS (Or.inl (List.mem_of_getElem? (i := 1) rfl)) (allS (Or.inl (List.mem_of_getElem? (i := 0) rfl)) all0))
  obtain ⟨fs, hr, hrun, hended, hW, hsame⟩ := X14.leave (v := (some (.int (1 : Int32)))) (fun h => by rw [Bd.returns] at h; cases h)
  refine ⟨_, _, pre0 _ ?_, hrun, hended, _, _, rfl, ?_, ⟨_, rfl⟩, hW, hsame.mono (by decide) (by decide)⟩
  · refine XS.aloadN X0.here hx rfl (hb hby d_jdk_38_method_25_0) rfl rfl ?_
    refine XS.dup X0.here hx rfl (hb hby d_jdk_38_method_25_1) rfl rfl ?_
    refine st1 _ ?_
    refine XS.iconst X1.here hx rfl (hb hby d_jdk_38_method_25_5) ?_
    refine XS.iadd X1.here hx rfl (hb hby d_jdk_38_method_25_6) rfl ?_
    show Steps p.tables e below (T1.setTop (mkF m 7 #[.val (.ref a1), .val (.ref a2)] [(.int (1 : Int32)), (.ref a1)])) _
    refine st2 _ ?_
    refine XS.aloadN X2.here hx rfl (hb hby d_jdk_38_method_25_10) rfl rfl ?_
    refine XS.aloadN X2.here hx rfl (hb hby d_jdk_38_method_25_11) rfl rfl ?_
    refine XS.aloadN X2.here hx rfl (hb hby d_jdk_38_method_25_12) rfl rfl ?_
    refine st7 _ ?_
    refine XS.aloadN X7.here hx rfl (hb hby d_jdk_38_method_25_16) rfl rfl ?_
    refine st9 _ ?_
    refine st14.trans ?_
    refine XS.iconst X14.here hx rfl (hb hby d_jdk_38_method_25_23) ?_
    exact retN X14 hx (t := .boolean) Bd.returns (by simp) (hb hby d_jdk_38_method_25_24) hr
  · show Q_rc11_add Z aE a1 a2 a3 cid5 h0 n0 _ T14.heap _
    exact ⟨rfl, N14, K16, q14_2, q14_3, q14_4, q14_5, q14_0, q14_1⟩
def Q_rc6_name (Z : State) (aE : Addr) (a1 : Addr) (a2 : Addr) (a3 : Addr) (j4 : Int64) (a5 : Addr) (a6 : Addr) (j7 : Int64) (h0 : Heap) (n0 : Nat) (v : Option Value) (h : Heap) (L : List Loc) : Prop := ∃ (b6 : Addr), ∃ (x24_b4 : Addr), ∃ (x24_k4 : ClassId), v = some .null ∧ Fr n0 L ∧ Keep h0 h [a1] ∧ h0.size ≤ b6 ∧ h0.size ≤ x24_b4 ∧ Exa Z h a1 nKnownO_3 ∧ Fld Z h a1 nKnownO_3 "alsoNamed" nList_8 (.ref b6) ∧ Fld Z h a1 nKnownO_3 "named" nPredec_7 (.ref a3) ∧ Fld Z h a1 nKnownO_3 "namedSeq" "J" (.long j4) ∧ Exa Z h b6 nArrayL_9 ∧ Fld Z h b6 nArrayL_9 "elementData" nObject_10 (.ref x24_b4) ∧ Fld Z h b6 nAbstra_11 "modCount" "I" (.int (1 : Int32)) ∧ Fld Z h b6 nArrayL_9 "size" "I" (.int (1 : Int32)) ∧ Arv Z h x24_b4 x24_k4 (.object nObject_12) (1 : Int32) [(.ref a2)] .null ∧ Ovr Z x24_k4 nObject_12
set_option maxRecDepth 65536 in
set_option maxHeartbeats 40000000 in
theorem rc6_name (l : Launch) (Z : State) (a0 : Array Value) (hw : ∀ d ∈ tables_1, d.before a0 Z = true) (ws : List Jvm.Cond) (cs : Int32) (aE : Addr) (hS : SB Z cs aE) (a1 : Addr) (a2 : Addr) (a3 : Addr) (j4 : Int64) (a5 : Addr) (a6 : Addr) (j7 : Int64) (h0 : Heap) (n0 : Nat) (O0 : Old Z n0 h0) (g_a1 : n0 ≤ a1) (E_a1 : Exa Z h0 a1 nKnownO_3) (F_a1_alsoNamed : Fld Z h0 a1 nKnownO_3 "alsoNamed" nList_8 .null) (F_a1_named : Fld Z h0 a1 nKnownO_3 "named" nPredec_7 (.ref a3)) (F_a1_namedSeq : Fld Z h0 a1 nKnownO_3 "namedSeq" "J" (.long j4)) (E_a2 : Exa Z h0 a2 nPredec_4) (F_a2_id : Fld Z h0 a2 nPredec_4 "id" nMessag_5 (.ref a5)) (E_a3 : Exa Z h0 a3 nPredec_4) (E_a5 : Exa Z h0 a5 nMessag_6) (F_a5_seq : Fld Z h0 a5 nMessag_6 "seq" "J" (.long j7)) (E_a6 : Exa Z h0 a6 nMessag_6) (hy0 : ¬ j4 = j7) :
    Met l my_3 prog_22_method_11_code 5 (some (.object nPredec_4)) ws ({ frames := 4, cells := 2, slots := 4, locals := 51 } : Room) #[(.ref a1), (.ref a2)] Z h0 (Q_rc6_name Z aE a1 a2 a3 j4 a5 a6 j7 h0 n0) := by
  refine MetFree.of_bodySF (plainFor_of_name pn_2) hisR ?_
  intro p e s m args below meth c s₁ Bd hml0 hP hK
  obtain ⟨rfl, hZ, hh⟩ := hP
  have hx := Bd.exec
  have hby := Bd.bytes
  have hml : c.maxLocals = 5 := hml0
  have hown : s.vm.findClass nKnownO_3 = some m.cls := findClass_of_methodNamed Bd.named
  have hnm := (name_of_methodNamed Bd.named Bd.method).1
  have X0 : Stand p l e ({ frames := 4, cells := 2, slots := 4, locals := 51 } : Room) s m #[(.ref a1), (.ref a2)] below meth c s₁ [] 0 0 := Stand.of_body Bd
  have e0 : s₁.heap = h0 := by rw [← hh, Bd.state]; rfl
  have N0 := Fr.nil n0
  obtain ⟨f₀, hf₀⟩ : ∃ f, f = entryFrame m #[(.ref a1), (.ref a2)] 5 := ⟨_, rfl⟩
  rw [← hf₀]
  have pre0 : Go p e below s₁ f₀ s₁ (mkF m 0 #[.val (.ref a1), .val (.ref a2), .unset, .unset, .unset] []) := fun t kk => castTop (hf₀.trans (ef_rc6_name m (a1) (a2))) kk
  obtain ⟨cq1, kq1, q1a, q1b, q1c⟩ := isOf hZ e0 (E_a2)
  obtain ⟨_, _, ⟨T1, L1, k1, n1⟩, -, X1, ⟨Lc1, hQ1, l1, y1, z1⟩, st1⟩ := X0.virtualBack hx (y := my_1) (z := my_1) hown (mvT hZ (wq hw 144 rfl)) (mvT hZ (wq hw 145 rfl)) (notFace_of_selects (args := #[]) (mvT hZ (wq hw 147 rfl))) (mvT hZ (wq hw 147 rfl)) (mvT hZ (wq hw 146 rfl)) (by decide) (backOf (W := 0) (rc2_id l Z a0 hw [] cs aE hS a2 a5 h0 n0 O0 F_a2_id) hZ (wq hw 148 rfl) (wq hw 63 rfl) (by decide) (by decide)) q1a q1c (g := (mkF m 1 #[.val (.ref a1), .val (.ref a2), .unset, .unset, .unset] [(.ref a2)])) rfl (by rw [hml]; rfl) (Steps.refl _) (argsL := []) (rest := []) (lenOf pd_0 rfl) rfl (by show 2 * 0 + _ ≤ _; exact Nat.le_of_eq rfl) (hb hby d_prog_22_method_11_1) (fun _ _ => ⟨rfl, e0, (by decide : 0 + 0 ≤ _), (by decide : 0 + 0 ≤ _)⟩)
  dsimp only [Pt.U, Pt.locs, Pt.cells, Pt.slots] at X1 l1 y1 z1 st1 hQ1
  have X1 := own_to X1 l1 y1 z1
  obtain ⟨rfl, N1q, e1⟩ := hQ1
  have N1 := Fr.app N0 N1q
  obtain ⟨cq2, kq2, q2a, q2b, q2c⟩ := isOf hZ e1 (E_a5)
  obtain ⟨_, _, ⟨T2, L2, k2, n2⟩, -, X2, ⟨Lc2, hQ2, l2, y2, z2⟩, st2⟩ := X1.virtualBack hx (y := my_2) (z := my_2) hown (mvT hZ (wq hw 149 rfl)) (mvT hZ (wq hw 150 rfl)) (notFace_of_selects (args := #[]) (mvT hZ (wq hw 152 rfl))) (mvT hZ (wq hw 152 rfl)) (mvT hZ (wq hw 151 rfl)) (by decide) (backOf (W := 0) (rc3_seq l Z a0 hw [] cs aE hS a5 j7 h0 n0 O0 F_a5_seq) hZ (wq hw 153 rfl) (wq hw 66 rfl) (by decide) (by decide)) q2a q2c (g := (mkF m 4 #[.val (.ref a1), .val (.ref a2), .unset, .unset, .unset] [(.ref a5)])) rfl (by rw [hml]; rfl) (Steps.refl _) (argsL := []) (rest := []) (lenOf pd_1 rfl) rfl (by show 2 * 0 + _ ≤ _; exact Nat.le_of_eq rfl) (hb hby d_prog_22_method_11_4) (fun _ _ => ⟨rfl, e1, (by decide : 0 + 0 ≤ _), (by decide : 0 + 0 ≤ _)⟩)
  dsimp only [Pt.U, Pt.locs, Pt.cells, Pt.slots] at X2 l2 y2 z2 st2 hQ2
  have X2 := own_to X2 l2 y2 z2
  obtain ⟨rfl, N2q, e2⟩ := hQ2
  have N2 := Fr.app N1 N2q
  obtain ⟨T3, X3, e3, st3⟩ := getF X2 hx hZ hown (host := "") (Or.inl (wq hw 128 rfl)) Via.refl e2 F_a1_named (g := (mkF m 9 #[.val (.ref a1), .val (.ref a2), .val (.long j7), .second, .unset] [(.ref a1)])) rfl rfl (hb hby d_prog_22_method_11_9)
  obtain ⟨T4, X4, e4, st4⟩ := getF X3 hx hZ hown (host := "") (Or.inl (wq hw 154 rfl)) Via.refl e3 F_a1_namedSeq (g := (mkF m 16 #[.val (.ref a1), .val (.ref a2), .val (.long j7), .second, .unset] [(.ref a1)])) rfl rfl (hb hby d_prog_22_method_11_16)
  obtain ⟨T5, X5, e5, st5⟩ := getF X4 hx hZ hown (host := "") (Or.inl (wq hw 156 rfl)) Via.refl e4 F_a1_alsoNamed (g := (mkF m 44 #[.val (.ref a1), .val (.ref a2), .val (.long j7), .second, .unset] [(.ref a1)])) rfl rfl (hb hby d_prog_22_method_11_44)
  obtain ⟨T6, h6, X6, e6, E6, A6, D6, -, st6⟩ := newO X5 hx hZ hown (wq hw 158 rfl) (wq hw 159 rfl) (wq hw 160 rfl) e5 (g := (mkF m 51 #[.val (.ref a1), .val (.ref a2), .val (.long j7), .second, .unset] [(.ref a1)])) rfl (hb hby d_prog_22_method_11_51) (by decide) (by decide)
  obtain ⟨b6, gb6⟩ : ∃ z, z = h0.size := ⟨_, rfl⟩
  rw [← gb6] at A6 D6 st6
  have ne7 : a1 ≠ b6 := Nat.ne_of_lt (Nat.lt_of_lt_of_le E_a1.lt (Nat.le_of_eq gb6.symm))
  have ne8 : a2 ≠ b6 := Nat.ne_of_lt (Nat.lt_of_lt_of_le E_a2.lt (Nat.le_of_eq gb6.symm))
  have ne9 : a3 ≠ b6 := Nat.ne_of_lt (Nat.lt_of_lt_of_le E_a3.lt (Nat.le_of_eq gb6.symm))
  have ne10 : a5 ≠ b6 := Nat.ne_of_lt (Nat.lt_of_lt_of_le E_a5.lt (Nat.le_of_eq gb6.symm))
  have ne11 : a6 ≠ b6 := Nat.ne_of_lt (Nat.lt_of_lt_of_le E_a6.lt (Nat.le_of_eq gb6.symm))
  have g12 : n0 ≤ b6 := Nat.le_trans (Nat.le_of_eq O0.1.symm) (Nat.le_trans O0.2.1 (Nat.le_of_eq gb6.symm))
  have s13 : h0.size ≤ b6 := Nat.le_trans (Keep.refl h0 [a1]).1 (Nat.le_of_eq gb6.symm)
  have O14 : Old Z n0 h6 := Old.ext O0 E6
  have K15 : Keep h0 h6 [a1] := (Keep.refl h0 [a1]).ext E6
  have f16 : Fld Z h6 b6 nAbstra_11 "modCount" "I" (.int (0 : Int32)) := D6 (Or.inl (wq hw 178 rfl)) (ty := .int) (by decide)
  have f17 : Fld Z h6 b6 nArrayL_9 "elementData" nObject_10 .null := D6 (Or.inl (wq hw 182 rfl)) (ty := (.array (.object nObject_12))) (by decide)
  have f18 : Fld Z h6 b6 nArrayL_9 "size" "I" (.int (0 : Int32)) := D6 (Or.inl (wq hw 193 rfl)) (ty := .int) (by decide)
  have t19 : Exa Z h6 a1 nKnownO_3 := (E_a1.ext E6)
  have t20 : Exa Z h6 a2 nPredec_4 := (E_a2.ext E6)
  have t21 : Exa Z h6 a3 nPredec_4 := (E_a3.ext E6)
  have t22 : Exa Z h6 a5 nMessag_6 := (E_a5.ext E6)
  have t23 : Exa Z h6 a6 nMessag_6 := (E_a6.ext E6)
  obtain ⟨_, _, ⟨T24, L24, k24, n24⟩, -, X24, ⟨Lc24, hQ24, l24, y24, z24⟩, st24⟩ := X6.specialBack hx (y := my_8) rfl hown (mvT hZ (wq hw 161 rfl)) (mvT hZ (wq hw 162 rfl)) (mvT hZ (wq hw 163 rfl)) (by decide) (backOf (W := 2) (rc7_init l Z a0 hw [] cs aE hS b6 h6 n0 O14 g12 A6 f17 f16 f18) hZ (wq hw 163 rfl) (wq hw 160 rfl) (by decide) (by decide)) (g := (mkF m 56 #[.val (.ref a1), .val (.ref a2), .val (.long j7), .second, .unset] [(.int (1 : Int32)), (.ref b6), (.ref b6), (.ref a1)])) rfl (by rw [hml]; rfl) (Steps.refl _) (a := b6) (argsL := [(.int (1 : Int32))]) (rest := [(.ref b6), (.ref a1)]) (lenOf pd_5 rfl) rfl (by show 2 * 0 + _ ≤ _; exact Nat.le_of_eq rfl) (hb hby d_prog_22_method_11_56) (fun _ _ => ⟨rfl, e6, (by decide : 1 + 1 ≤ _), (by decide : 3 + 1 ≤ _)⟩)
  dsimp only [Pt.U, Pt.locs, Pt.cells, Pt.slots] at X24 l24 y24 z24 st24 hQ24
  have X24 := own_to X24 l24 y24 z24
  obtain ⟨x24_b4, x24_k4, rfl, N24q, K24, sz24_b4, q24_0, q24_1, q24_2, q24_3, q24_4, q24_5⟩ := hQ24
  have N24 := Fr.app N2 N24q
  have g25 : n0 ≤ x24_b4 := Nat.le_trans (Nat.le_of_eq O14.1.symm) (Nat.le_trans O14.2.1 sz24_b4)
  have s26 : h0.size ≤ x24_b4 := Nat.le_trans K15.1 sz24_b4
  have ne27 : a1 ≠ x24_b4 := Nat.ne_of_lt (Nat.lt_of_lt_of_le t19.lt sz24_b4)
  have ne28 : a2 ≠ x24_b4 := Nat.ne_of_lt (Nat.lt_of_lt_of_le t20.lt sz24_b4)
  have ne29 : a3 ≠ x24_b4 := Nat.ne_of_lt (Nat.lt_of_lt_of_le t21.lt sz24_b4)
  have ne30 : a5 ≠ x24_b4 := Nat.ne_of_lt (Nat.lt_of_lt_of_le t22.lt sz24_b4)
  have ne31 : a6 ≠ x24_b4 := Nat.ne_of_lt (Nat.lt_of_lt_of_le t23.lt sz24_b4)
  have ne32 : b6 ≠ x24_b4 := Nat.ne_of_lt (Nat.lt_of_lt_of_le A6.lt sz24_b4)
  have O33 : Old Z n0 T24.heap := Old.keep O14 K24 (allS g12 all0)
  have K34 : Keep h0 T24.heap [a1] := K15.trans K24 (allS (Or.inr s13) all0)
  have t35 : Exa Z T24.heap a1 nKnownO_3 := (t19.keep K24)
  have t36 : Fld Z T24.heap a1 nKnownO_3 "alsoNamed" nList_8 .null := ((F_a1_alsoNamed.ext E6).keep K24 (ninS ne7 nin0))
  obtain ⟨T37, h37, X37, e37, W37, st37⟩ := putF X24 hx hZ hown (host := "") (Or.inl (wq hw 156 rfl)) Via.refl rfl t36 t35 (Or.inl (wq hw 157 rfl)) (wq hw 32 rfl) (ty := (.object "java/util/List")) (by decide) rfl rfl (g := (mkF m 59 #[.val (.ref a1), .val (.ref a2), .val (.long j7), .second, .unset] [(.ref b6), (.ref a1)])) rfl rfl (hb hby d_prog_22_method_11_59)
  have f38 : Fld Z h37 a1 nKnownO_3 "alsoNamed" nList_8 (.ref b6) := t36.same W37
  have N37 := Fr.snoc X37 N24 g_a1
  have O39 : Old Z n0 h37 := Old.wr O33 W37 g_a1
  have K40 : Keep h0 h37 [a1] := K34.wr W37 (Or.inl (List.mem_of_getElem? (i := 0) rfl))
  obtain ⟨T41, X41, e41, st41⟩ := getF X37 hx hZ hown (host := "") (Or.inl (wq hw 156 rfl)) Via.refl e37 f38 (g := (mkF m 68 #[.val (.ref a1), .val (.ref a2), .val (.long j7), .second, .val (.int (0 : Int32))] [(.ref a1), (.int (0 : Int32))])) rfl rfl (hb hby d_prog_22_method_11_68)
  have t42 : Exa Z h37 b6 nArrayL_9 := (q24_0.wr W37)
  have t43 : Fld Z h37 b6 nArrayL_9 "size" "I" (.int (0 : Int32)) := (q24_3.other W37 (Or.inl (Ne.symm ne7)))
  obtain ⟨cq44, kq44, q44a, q44b, q44c⟩ := isOf hZ e41 (t42)
  obtain ⟨_, _, ⟨T44, L44, k44, n44⟩, -, X44, ⟨Lc44, hQ44, l44, y44, z44⟩, st44⟩ := X41.interfaceBack hx (xi := my_12) (y := my_9) hown (mvT hZ (wq hw 183 rfl)) (mvT hZ (wq hw 184 rfl)) (mvT hZ (wq hw 185 rfl)) (mvT hZ (wq hw 186 rfl)) (mvT hZ (wq hw 187 rfl)) (mvT hZ (wq hw 188 rfl)) (mvT hZ (wq hw 189 rfl)) (mvT hZ (wq hw 190 rfl)) (by decide) (backOf (W := 1) (rc10_size l Z a0 hw [] cs aE hS b6 h37 n0 O39 g12 t43) hZ (wq hw 191 rfl) (wq hw 160 rfl) (by decide) (by decide)) q44a q44b q44c (g := (mkF m 71 #[.val (.ref a1), .val (.ref a2), .val (.long j7), .second, .val (.int (0 : Int32))] [(.ref b6), (.int (0 : Int32))])) rfl (by rw [hml]; rfl) (Steps.refl _) (argsL := []) (rest := [(.int (0 : Int32))]) (lenOf pd_6 rfl) rfl (by show 2 * 0 + _ ≤ _; exact Nat.le_of_eq rfl) (hb hby d_prog_22_method_11_71) (fun _ _ => ⟨rfl, e41, (by decide : 2 + 0 ≤ _), (by decide : 4 + 0 ≤ _)⟩)
  dsimp only [Pt.U, Pt.locs, Pt.cells, Pt.slots] at X44 l44 y44 z44 st44 hQ44
  have X44 := own_to X44 l44 y44 z44
  obtain ⟨rfl, N44q, e44⟩ := hQ44
  have N44 := Fr.app N37 N44q
  obtain ⟨T45, X45, e45, st45⟩ := getF X44 hx hZ hown (host := "") (Or.inl (wq hw 156 rfl)) Via.refl e44 f38 (g := (mkF m 127 #[.val (.ref a1), .val (.ref a2), .val (.long j7), .second, .val (.int (0 : Int32))] [(.ref a1)])) rfl rfl (hb hby d_prog_22_method_11_127)
  have t46 : Fld Z h37 b6 nArrayL_9 "elementData" nObject_10 (.ref x24_b4) := (q24_1.other W37 (Or.inl (Ne.symm ne7)))
  have t47 : Fld Z h37 b6 nAbstra_11 "modCount" "I" (.int (0 : Int32)) := (q24_2.other W37 (Or.inl (Ne.symm ne7)))
  have t48 : Exa Z h37 a2 nPredec_4 := ((t20.keep K24).wr W37)
  have t49 : Arv Z h37 x24_b4 x24_k4 (.object nObject_12) (1 : Int32) [.null] .null := (q24_4.other W37 (Ne.symm ne27))
  obtain ⟨cq50, kq50, q50a, q50b, q50c⟩ := isOf hZ e45 (t42)
  obtain ⟨_, _, ⟨T50, L50, k50, n50⟩, -, X50, ⟨Lc50, hQ50, l50, y50, z50⟩, st50⟩ := X45.interfaceBack hx (xi := my_13) (y := my_11) hown (mvT hZ (wq hw 194 rfl)) (mvT hZ (wq hw 195 rfl)) (mvT hZ (wq hw 196 rfl)) (mvT hZ (wq hw 197 rfl)) (mvT hZ (wq hw 198 rfl)) (mvT hZ (wq hw 199 rfl)) (mvT hZ (wq hw 200 rfl)) (mvT hZ (wq hw 190 rfl)) (by decide) (backOf (W := 0) (rc11_add l Z a0 hw [] cs aE hS b6 a2 x24_b4 x24_k4 h37 n0 O39 g12 g25 t42 t46 t47 t43 t48 t49 q24_5) hZ (wq hw 201 rfl) (wq hw 160 rfl) (by decide) (by decide)) q50a q50b q50c (g := (mkF m 131 #[.val (.ref a1), .val (.ref a2), .val (.long j7), .second, .val (.int (0 : Int32))] [(.ref a2), (.ref b6)])) rfl (by rw [hml]; rfl) (Steps.refl _) (argsL := [(.ref a2)]) (rest := []) (lenOf pd_8 rfl) rfl (by show 2 * 0 + _ ≤ _; exact Nat.le_of_eq rfl) (hb hby d_prog_22_method_11_131) (fun _ _ => ⟨rfl, e45, (by decide : 2 + 0 ≤ _), (by decide : 4 + 0 ≤ _)⟩)
  dsimp only [Pt.U, Pt.locs, Pt.cells, Pt.slots] at X50 l50 y50 z50 st50 hQ50
  have X50 := own_to X50 l50 y50 z50
  obtain ⟨rfl, N50q, K50, q50_0, q50_1, q50_2, q50_3, q50_4, q50_5⟩ := hQ50
  have N50 := Fr.app N44 N50q
  have O51 : Old Z n0 T50.heap := Old.keep O39 K50 (allS g12 (allS g25 all0))
  have K52 : Keep h0 T50.heap [a1] := K40.trans K50 (allS (Or.inr s13) (allS (Or.inr s26) all0))
  have t53 : Exa Z T50.heap a1 nKnownO_3 := ((t35.wr W37).keep K50)
  have t54 : Fld Z T50.heap a1 nKnownO_3 "alsoNamed" nList_8 (.ref b6) := (f38.keep K50 (ninS ne7 (ninS ne27 nin0)))
  have t55 : Fld Z T50.heap a1 nKnownO_3 "named" nPredec_7 (.ref a3) := ((((F_a1_named.ext E6).keep K24 (ninS ne7 nin0)).other W37 (Or.inr (slot_ne (Or.inl (wq hw 129 rfl)) (Or.inl (wq hw 157 rfl)) (by decide) (t := (.object nPredec_4)) (t' := (.object "java/util/List")) (by decide) (by decide)))).keep K50 (ninS ne7 (ninS ne27 nin0)))
  have t56 : Fld Z T50.heap a1 nKnownO_3 "namedSeq" "J" (.long j4) := ((((F_a1_namedSeq.ext E6).keep K24 (ninS ne7 nin0)).other W37 (Or.inr (slot_ne (Or.inl (wq hw 155 rfl)) (Or.inl (wq hw 157 rfl)) (by decide) (t := .long) (t' := (.object "java/util/List")) (by decide) (by decide)))).keep K50 (ninS ne7 (ninS ne27 nin0)))
  obtain ⟨fs, hr, hrun, hended, hW, hsame⟩ := X50.leave (v := (some .null)) (fun h => by rw [Bd.returns] at h; cases h)
  refine ⟨_, _, pre0 _ ?_, hrun, hended, _, _, rfl, ?_, ⟨_, rfl⟩, hW, hsame.mono (by decide) (by decide)⟩
  · refine XS.aloadN X0.here hx rfl (hb hby d_prog_22_method_11_0) rfl rfl ?_
    refine st1.trans ?_
    refine st2.trans ?_
    refine XS.lstoreN X2.here hx rfl (hb hby d_prog_22_method_11_7) rfl (l' := #[.val (.ref a1), .val (.ref a2), .val (.long j7), .second, .unset]) rfl ?_
    refine XS.aloadN X2.here hx rfl (hb hby d_prog_22_method_11_8) rfl rfl ?_
    refine st3 _ ?_
    refine XS.ifnullNo X3.here hx rfl (hb hby d_prog_22_method_11_12) rfl ?_
    refine XS.aloadN X3.here hx rfl (hb hby d_prog_22_method_11_15) rfl rfl ?_
    refine st4 _ ?_
    refine XS.lloadN X4.here hx rfl (hb hby d_prog_22_method_11_19) rfl ?_
    refine XS.lcmp X4.here hx rfl (hb hby d_prog_22_method_11_20) rfl ?_
    refine XS.ifYes X4.here hx rfl (pc0 := 21) (pc' := 43) rfl (hb hby d_prog_22_method_11_21) rfl ((if0 _ _).trans (feq (fun q => hy0 ((lw_eq _ _).mp q))).2) (by decide) (by decide) ?_
    refine XS.aloadN X4.here hx rfl (hb hby d_prog_22_method_11_43) rfl rfl ?_
    refine st5 _ ?_
    refine XS.ifnonnullNo X5.here hx rfl (hb hby d_prog_22_method_11_47) rfl ?_
    refine XS.aloadN X5.here hx rfl (hb hby d_prog_22_method_11_50) rfl rfl ?_
    refine st6 _ ?_
    refine XS.dup X6.here hx rfl (hb hby d_prog_22_method_11_54) rfl rfl ?_
    refine XS.iconst X6.here hx rfl (hb hby d_prog_22_method_11_55) ?_
    refine st24.trans ?_
    refine st37 _ ?_
    refine XS.iconst X37.here hx rfl (hb hby d_prog_22_method_11_62) ?_
    refine XS.istore X37.here hx rfl (hb hby d_prog_22_method_11_63) rfl (l' := #[.val (.ref a1), .val (.ref a2), .val (.long j7), .second, .val (.int (0 : Int32))]) rfl ?_
    refine XS.iload X37.here hx rfl (hb hby d_prog_22_method_11_65) rfl ?_
    refine XS.aloadN X37.here hx rfl (hb hby d_prog_22_method_11_67) rfl rfl ?_
    refine st41 _ ?_
    refine st44.trans ?_
    refine XS.icmpYes X44.here hx rfl (pc0 := 76) (pc' := 126) rfl (hb hby d_prog_22_method_11_76) rfl (flt (by decide : ¬ ((0 : Int32) < (0 : Int32)))).2.1 (by decide) (by decide) ?_
    refine XS.aloadN X44.here hx rfl (hb hby d_prog_22_method_11_126) rfl rfl ?_
    refine st45 _ ?_
    refine XS.aloadN X45.here hx rfl (hb hby d_prog_22_method_11_130) rfl rfl ?_
    refine st50.trans ?_
    refine XS.pop X50.here hx rfl (hb hby d_prog_22_method_11_136) rfl rfl ?_
    refine XS.aconstNull X50.here hx rfl (hb hby d_prog_22_method_11_137) ?_
    exact retOut X50 hx Bd.returns rfl (Or.inr (Or.inr (Or.inr (Or.inr ⟨rfl, rfl, rfl⟩)))) (hb hby d_prog_22_method_11_138) hr
  · show Q_rc6_name Z aE a1 a2 a3 j4 a5 a6 j7 h0 n0 _ T50.heap _
    exact ⟨b6, x24_b4, x24_k4, rfl, N50, K52, s13, s26, t53, t54, t55, t56, q50_0, q50_1, q50_2, q50_3, q50_4, q50_5⟩
set_option maxRecDepth 65536 in
set_option maxHeartbeats 40000000 in
theorem rs_N_A_1 (l : Launch) (Z : State) (a0 : Array Value) (hw : ∀ d ∈ tables_1, d.before a0 Z = true) (ws : List Jvm.Cond) (cs : Int32) (aE : Addr) (hS : SB Z cs aE) (k pA mA : Addr) (sa : Int64) (pB mB : Addr) (sb : Int64) (h0 : Heap) (n0 : Nat) (O0 : Old Z n0 h0) (hq : ¬ sa = sb) (hFB : FB Z n0 h0 k pA mA sa pB mB sb) (hKS : KS1 Z h0 k pA sa) :
    Met l my_4 method_3_code 10 (some .int) ws ({ frames := 5, cells := 2, slots := 4, locals := 67 } : Room) #[(.ref k), (.int (1 : Int32)), (.ref pA), (.ref pB), (.long sa), (.long sb), (.int (0 : Int32)), (.int (1 : Int32))] Z h0 (QSN Z k pA mA sa pB mB sb h0 n0) := by
  refine MetFree.of_bodySF (plainFor_of_name pn_3) hisR ?_
  intro p e s m args below meth c s₁ Bd hml0 hP hK
  obtain ⟨rfl, hZ, hh⟩ := hP
  have hx := Bd.exec
  have hby := Bd.bytes
  have hml : c.maxLocals = 10 := hml0
  have hown : s.vm.findClass nKnownO_13 = some m.cls := findClass_of_methodNamed Bd.named
  have hnm := (name_of_methodNamed Bd.named Bd.method).1
  have X0 : Stand p l e ({ frames := 5, cells := 2, slots := 4, locals := 67 } : Room) s m #[(.ref k), (.int (1 : Int32)), (.ref pA), (.ref pB), (.long sa), (.long sb), (.int (0 : Int32)), (.int (1 : Int32))] below meth c s₁ [] 0 0 := Stand.of_body Bd
  have e0 : s₁.heap = h0 := by rw [← hh, Bd.state]; rfl
  have N0 := Fr.nil n0
  obtain ⟨f₀, hf₀⟩ : ∃ f, f = entryFrame m #[(.ref k), (.int (1 : Int32)), (.ref pA), (.ref pB), (.long sa), (.long sb), (.int (0 : Int32)), (.int (1 : Int32))] 10 := ⟨_, rfl⟩
  rw [← hf₀]
  have pre0 : Go p e below s₁ f₀ s₁ (mkF m 0 #[.val (.ref k), .val (.int (1 : Int32)), .val (.ref pA), .val (.ref pB), .val (.long sa), .second, .val (.long sb), .second, .val (.int (0 : Int32)), .val (.int (1 : Int32))] []) := fun t kk => castTop (hf₀.trans (ef_rs_N_A_1 m (k) ((1 : Int32)) (pA) (pB) (sa) (sb) ((0 : Int32)) ((1 : Int32)))) kk
  obtain ⟨Ek, gk, EpA, FpA, EmA, FmA, EpB, FpB, EmB, FmB⟩ := hFB
  obtain ⟨KN1, KN2, KN3⟩ := hKS
  obtain ⟨cq1, kq1, q1a, q1b, q1c⟩ := isOf hZ e0 (Ek)
  obtain ⟨_, _, ⟨T1, L1, k1, n1⟩, -, X1, ⟨Lc1, hQ1, l1, y1, z1⟩, st1⟩ := X0.virtualBack hx (y := my_3) (z := my_3) hown (mvT hZ (wq hw 139 rfl)) (mvT hZ (wq hw 140 rfl)) (notFace_of_selects (args := #[]) (mvT hZ (wq hw 142 rfl))) (mvT hZ (wq hw 142 rfl)) (mvT hZ (wq hw 141 rfl)) (by decide) (backOf (W := 0) (rc6_name l Z a0 hw [] cs aE hS k pB pA sa mB mA sb h0 n0 O0 gk Ek KN3 KN1 KN2 EpB FpB EpA EmB FmB EmA hq) hZ (wq hw 143 rfl) (wq hw 33 rfl) (by decide) (by decide)) q1a q1c (g := (mkF m 31 #[.val (.ref k), .val (.int (1 : Int32)), .val (.ref pA), .val (.ref pB), .val (.long sa), .second, .val (.long sb), .second, .val (.int (0 : Int32)), .val (.int (1 : Int32))] [(.ref pB), (.ref k)])) rfl (by rw [hml]; rfl) (Steps.refl _) (argsL := [(.ref pB)]) (rest := []) (lenOf pd_2 rfl) rfl (by show 2 * 0 + _ ≤ _; exact Nat.le_of_eq rfl) (hb hby d_method_3_31) (fun _ _ => ⟨rfl, e0, (by decide : 0 + 2 ≤ _), (by decide : 0 + 4 ≤ _)⟩)
  dsimp only [Pt.U, Pt.locs, Pt.cells, Pt.slots] at X1 l1 y1 z1 st1 hQ1
  have X1 := own_to X1 l1 y1 z1
  obtain ⟨x1_b6, x1_x24_b4, x1_x24_k4, rfl, N1q, K1, sz1_b6, sz1_x24_b4, q1_0, q1_1, q1_2, q1_3, q1_4, q1_5, q1_6, q1_7, q1_8, q1_9⟩ := hQ1
  have N1 := Fr.app N0 N1q
  have g2 : n0 ≤ x1_b6 := Nat.le_trans (Nat.le_of_eq O0.1.symm) (Nat.le_trans O0.2.1 sz1_b6)
  have s3 : h0.size ≤ x1_b6 := Nat.le_trans (Keep.refl h0 [k]).1 sz1_b6
  have ne4 : k ≠ x1_b6 := Nat.ne_of_lt (Nat.lt_of_lt_of_le Ek.lt sz1_b6)
  have ne5 : pA ≠ x1_b6 := Nat.ne_of_lt (Nat.lt_of_lt_of_le EpA.lt sz1_b6)
  have ne6 : mA ≠ x1_b6 := Nat.ne_of_lt (Nat.lt_of_lt_of_le EmA.lt sz1_b6)
  have ne7 : pB ≠ x1_b6 := Nat.ne_of_lt (Nat.lt_of_lt_of_le EpB.lt sz1_b6)
  have ne8 : mB ≠ x1_b6 := Nat.ne_of_lt (Nat.lt_of_lt_of_le EmB.lt sz1_b6)
  have g9 : n0 ≤ x1_x24_b4 := Nat.le_trans (Nat.le_of_eq O0.1.symm) (Nat.le_trans O0.2.1 sz1_x24_b4)
  have s10 : h0.size ≤ x1_x24_b4 := Nat.le_trans (Keep.refl h0 [k]).1 sz1_x24_b4
  have ne11 : k ≠ x1_x24_b4 := Nat.ne_of_lt (Nat.lt_of_lt_of_le Ek.lt sz1_x24_b4)
  have ne12 : pA ≠ x1_x24_b4 := Nat.ne_of_lt (Nat.lt_of_lt_of_le EpA.lt sz1_x24_b4)
  have ne13 : mA ≠ x1_x24_b4 := Nat.ne_of_lt (Nat.lt_of_lt_of_le EmA.lt sz1_x24_b4)
  have ne14 : pB ≠ x1_x24_b4 := Nat.ne_of_lt (Nat.lt_of_lt_of_le EpB.lt sz1_x24_b4)
  have ne15 : mB ≠ x1_x24_b4 := Nat.ne_of_lt (Nat.lt_of_lt_of_le EmB.lt sz1_x24_b4)
  have O16 : Old Z n0 T1.heap := Old.keep O0 K1 (allS gk all0)
  have K17 : Keep h0 T1.heap [k] := (Keep.refl h0 [k]).trans K1 (allS (Or.inl (List.mem_of_getElem? (i := 0) rfl)) all0)
  have t18 : Exa Z T1.heap pA nPredec_4 := (EpA.keep K1)
  have ne19 : pA ≠ k := Exa.ne EpA Ek (by decide)
  have t20 : Fld Z T1.heap pA nPredec_4 "id" nMessag_5 (.ref mA) := (FpA.keep K1 (ninS ne19 nin0))
  have t21 : Exa Z T1.heap mA nMessag_6 := (EmA.keep K1)
  have ne22 : mA ≠ k := Exa.ne EmA Ek (by decide)
  have t23 : Fld Z T1.heap mA nMessag_6 "seq" "J" (.long sa) := (FmA.keep K1 (ninS ne22 nin0))
  have t24 : Exa Z T1.heap pB nPredec_4 := (EpB.keep K1)
  have ne25 : pB ≠ k := Exa.ne EpB Ek (by decide)
  have t26 : Fld Z T1.heap pB nPredec_4 "id" nMessag_5 (.ref mB) := (FpB.keep K1 (ninS ne25 nin0))
  have t27 : Exa Z T1.heap mB nMessag_6 := (EmB.keep K1)
  have ne28 : mB ≠ k := Exa.ne EmB Ek (by decide)
  have t29 : Fld Z T1.heap mB nMessag_6 "seq" "J" (.long sb) := (FmB.keep K1 (ninS ne28 nin0))
  obtain ⟨fs, hr, hrun, hended, hW, hsame⟩ := X1.leave (v := (some (.int (3 : Int32)))) (fun h => by rw [Bd.returns] at h; cases h)
  refine ⟨_, _, pre0 _ ?_, hrun, hended, _, _, rfl, ?_, ⟨_, rfl⟩, hW, hsame.mono (by decide) (by decide)⟩
  · refine XS.iloadN X0.here hx rfl (hb hby d_method_3_0) rfl ?_
    refine XS.ifYes X0.here hx rfl (pc0 := 1) (pc' := 24) rfl (hb hby d_method_3_1) rfl ((if0 _ _).trans (feq (by decide : ¬ ((1 : Int32) = (0 : Int32)))).2) (by decide) (by decide) ?_
    refine XS.iloadN X0.here hx rfl (hb hby d_method_3_24) rfl ?_
    refine XS.iconst X0.here hx rfl (hb hby d_method_3_25) ?_
    refine XS.icmpNo X0.here hx rfl (hb hby d_method_3_26) rfl (teq (by decide : (1 : Int32) = (1 : Int32))).2 ?_
    refine XS.aloadN X0.here hx rfl (hb hby d_method_3_29) rfl rfl ?_
    refine XS.aloadN X0.here hx rfl (hb hby d_method_3_30) rfl rfl ?_
    refine st1.trans ?_
    refine XS.pop X1.here hx rfl (hb hby d_method_3_34) rfl rfl ?_
    refine XS.iload X1.here hx rfl (hb hby d_method_3_35) rfl ?_
    refine XS.iload X1.here hx rfl (hb hby d_method_3_37) rfl ?_
    refine XS.ifYes X1.here hx rfl (pc0 := 39) (pc' := 46) rfl (hb hby d_method_3_39) rfl ((if0 _ _).trans (teq (by decide : (0 : Int32) = (0 : Int32))).1) (by decide) (by decide) ?_
    refine XS.iconst X1.here hx rfl (hb hby d_method_3_46) ?_
    refine XS.ior X1.here hx rfl (hb hby d_method_3_47) rfl ?_
    show Steps p.tables e below (T1.setTop (mkF m 48 #[.val (.ref k), .val (.int (1 : Int32)), .val (.ref pA), .val (.ref pB), .val (.long sa), .second, .val (.long sb), .second, .val (.int (0 : Int32)), .val (.int (1 : Int32))] [(.int (3 : Int32))])) _
    exact retI X1 hx Bd.returns (hb hby d_method_3_48) hr
  · show QSN Z k pA mA sa pB mB sb h0 n0 _ T1.heap _
    exact ⟨_, rfl, N1, K17.1, O16, ⟨q1_0, gk, t18, t20, t21, t23, t24, t26, t27, t29⟩, Or.inr (Or.inr (Or.inr (Or.inl ⟨rfl, ⟨x1_b6, x1_x24_b4, x1_x24_k4, _, q1_2, q1_3, q1_1, q1_4, q1_7, q1_5, q1_6, q1_8, q1_9, g2, g9⟩⟩)))⟩
def Q_rc13_unname (Z : State) (aE : Addr) (a1 : Addr) (j2 : Int64) (a3 : Addr) (h0 : Heap) (n0 : Nat) (v : Option Value) (h : Heap) (L : List Loc) : Prop := v = some (.ref a3) ∧ Fr n0 L ∧ Keep h0 h [a1] ∧ Exa Z h a1 nKnownO_3 ∧ Fld Z h a1 nKnownO_3 "alsoNamed" nList_8 .null ∧ Fld Z h a1 nKnownO_3 "named" nPredec_7 .null ∧ Fld Z h a1 nKnownO_3 "namedSeq" "J" (.long j2)
set_option maxRecDepth 65536 in
set_option maxHeartbeats 40000000 in
theorem rc13_unname (l : Launch) (Z : State) (a0 : Array Value) (hw : ∀ d ∈ tables_1, d.before a0 Z = true) (ws : List Jvm.Cond) (cs : Int32) (aE : Addr) (hS : SB Z cs aE) (a1 : Addr) (j2 : Int64) (a3 : Addr) (h0 : Heap) (n0 : Nat) (O0 : Old Z n0 h0) (g_a1 : n0 ≤ a1) (E_a1 : Exa Z h0 a1 nKnownO_3) (F_a1_alsoNamed : Fld Z h0 a1 nKnownO_3 "alsoNamed" nList_8 .null) (F_a1_named : Fld Z h0 a1 nKnownO_3 "named" nPredec_7 (.ref a3)) (F_a1_namedSeq : Fld Z h0 a1 nKnownO_3 "namedSeq" "J" (.long j2)) :
    Met l my_5 prog_22_method_12_code 5 (some (.object nPredec_4)) ws ({ frames := 0, cells := 0, slots := 0, locals := 0 } : Room) #[(.ref a1), (.long j2)] Z h0 (Q_rc13_unname Z aE a1 j2 a3 h0 n0) := by
  refine MetFree.of_bodySF (plainFor_of_name pn_2) hisR ?_
  intro p e s m args below meth c s₁ Bd hml0 hP hK
  obtain ⟨rfl, hZ, hh⟩ := hP
  have hx := Bd.exec
  have hby := Bd.bytes
  have hml : c.maxLocals = 5 := hml0
  have hown : s.vm.findClass nKnownO_3 = some m.cls := findClass_of_methodNamed Bd.named
  have hnm := (name_of_methodNamed Bd.named Bd.method).1
  have X0 : Stand p l e ({ frames := 0, cells := 0, slots := 0, locals := 0 } : Room) s m #[(.ref a1), (.long j2)] below meth c s₁ [] 0 0 := Stand.of_body Bd
  have e0 : s₁.heap = h0 := by rw [← hh, Bd.state]; rfl
  have N0 := Fr.nil n0
  obtain ⟨f₀, hf₀⟩ : ∃ f, f = entryFrame m #[(.ref a1), (.long j2)] 5 := ⟨_, rfl⟩
  rw [← hf₀]
  have pre0 : Go p e below s₁ f₀ s₁ (mkF m 0 #[.val (.ref a1), .val (.long j2), .second, .unset, .unset] []) := fun t kk => castTop (hf₀.trans (ef_rc13_unname m (a1) (j2))) kk
  obtain ⟨T1, X1, e1, st1⟩ := getF X0 hx hZ hown (host := "") (Or.inl (wq hw 128 rfl)) Via.refl e0 F_a1_named (g := (mkF m 1 #[.val (.ref a1), .val (.long j2), .second, .unset, .unset] [(.ref a1)])) rfl rfl (hb hby d_prog_22_method_12_1)
  obtain ⟨T2, X2, e2, st2⟩ := getF X1 hx hZ hown (host := "") (Or.inl (wq hw 154 rfl)) Via.refl e1 F_a1_namedSeq (g := (mkF m 10 #[.val (.ref a1), .val (.long j2), .second, .unset, .unset] [(.ref a1)])) rfl rfl (hb hby d_prog_22_method_12_10)
  obtain ⟨T3, X3, e3, st3⟩ := getF X2 hx hZ hown (host := "") (Or.inl (wq hw 128 rfl)) Via.refl e2 F_a1_named (g := (mkF m 19 #[.val (.ref a1), .val (.long j2), .second, .unset, .unset] [(.ref a1)])) rfl rfl (hb hby d_prog_22_method_12_19)
  obtain ⟨T4, h4, X4, e4, W4, st4⟩ := putF X3 hx hZ hown (host := "") (Or.inl (wq hw 128 rfl)) Via.refl e3 F_a1_named E_a1 (Or.inl (wq hw 129 rfl)) (wq hw 32 rfl) (ty := (.object nPredec_4)) (by decide) rfl rfl (g := (mkF m 25 #[.val (.ref a1), .val (.long j2), .second, .val (.ref a3), .unset] [.null, (.ref a1)])) rfl rfl (hb hby d_prog_22_method_12_25)
  have f5 : Fld Z h4 a1 nKnownO_3 "named" nPredec_7 .null := F_a1_named.same W4
  have N4 := Fr.snoc X4 N0 g_a1
  have O6 : Old Z n0 h4 := Old.wr O0 W4 g_a1
  have K7 : Keep h0 h4 [a1] := (Keep.refl h0 [a1]).wr W4 (Or.inl (List.mem_of_getElem? (i := 0) rfl))
  have t8 : Fld Z h4 a1 nKnownO_3 "alsoNamed" nList_8 .null := (F_a1_alsoNamed.other W4 (Or.inr (slot_ne (Or.inl (wq hw 157 rfl)) (Or.inl (wq hw 129 rfl)) (by decide) (t := (.object "java/util/List")) (t' := (.object nPredec_4)) (by decide) (by decide))))
  obtain ⟨T9, X9, e9, st9⟩ := getF X4 hx hZ hown (host := "") (Or.inl (wq hw 156 rfl)) Via.refl e4 t8 (g := (mkF m 29 #[.val (.ref a1), .val (.long j2), .second, .val (.ref a3), .unset] [(.ref a1)])) rfl rfl (hb hby d_prog_22_method_12_29)
  have t10 : Exa Z h4 a1 nKnownO_3 := (E_a1.wr W4)
  have t11 : Fld Z h4 a1 nKnownO_3 "namedSeq" "J" (.long j2) := (F_a1_namedSeq.other W4 (Or.inr (slot_ne (Or.inl (wq hw 155 rfl)) (Or.inl (wq hw 129 rfl)) (by decide) (t := .long) (t' := (.object nPredec_4)) (by decide) (by decide))))
  obtain ⟨fs, hr, hrun, hended, hW, hsame⟩ := X9.leave (v := (some (.ref a3))) (fun h => by rw [Bd.returns] at h; cases h)
  refine ⟨_, _, pre0 _ ?_, hrun, hended, _, _, rfl, ?_, ⟨_, rfl⟩, hW, hsame.mono (by decide) (by decide)⟩
  · refine XS.aloadN X0.here hx rfl (hb hby d_prog_22_method_12_0) rfl rfl ?_
    refine st1 _ ?_
    refine XS.ifnonnullYes X1.here hx rfl (pc0 := 4) (pc' := 9) rfl (hb hby d_prog_22_method_12_4) rfl (by decide) (by decide) ?_
    refine XS.aloadN X1.here hx rfl (hb hby d_prog_22_method_12_9) rfl rfl ?_
    refine st2 _ ?_
    refine XS.lloadN X2.here hx rfl (hb hby d_prog_22_method_12_13) rfl ?_
    refine XS.lcmp X2.here hx rfl (hb hby d_prog_22_method_12_14) rfl ?_
    refine XS.ifNo X2.here hx rfl (hb hby d_prog_22_method_12_15) rfl ((if0 _ _).trans (teq ((lw_eq _ _).mpr rfl)).2) ?_
    refine XS.aloadN X2.here hx rfl (hb hby d_prog_22_method_12_18) rfl rfl ?_
    refine st3 _ ?_
    refine XS.astoreN X3.here hx rfl (hb hby d_prog_22_method_12_22) rfl rfl (l' := #[.val (.ref a1), .val (.long j2), .second, .val (.ref a3), .unset]) rfl ?_
    refine XS.aloadN X3.here hx rfl (hb hby d_prog_22_method_12_23) rfl rfl ?_
    refine XS.aconstNull X3.here hx rfl (hb hby d_prog_22_method_12_24) ?_
    refine st4 _ ?_
    refine XS.aloadN X4.here hx rfl (hb hby d_prog_22_method_12_28) rfl rfl ?_
    refine st9 _ ?_
    refine XS.ifnullYes X9.here hx rfl (pc0 := 32) (pc' := 93) rfl (hb hby d_prog_22_method_12_32) rfl (by decide) (by decide) ?_
    refine XS.aloadN X9.here hx rfl (hb hby d_prog_22_method_12_93) rfl rfl ?_
    exact retOut X9 hx Bd.returns rfl (Or.inr (Or.inr (Or.inr (Or.inr ⟨rfl, rfl, rfl⟩)))) (hb hby d_prog_22_method_12_94) hr
  · show Q_rc13_unname Z aE a1 j2 a3 h0 n0 _ T9.heap _
    rw [e9]
    exact ⟨rfl, N4, K7, t10, t8, f5, t11⟩
set_option maxRecDepth 65536 in
set_option maxHeartbeats 40000000 in
theorem rs_N_A_2 (l : Launch) (Z : State) (a0 : Array Value) (hw : ∀ d ∈ tables_1, d.before a0 Z = true) (ws : List Jvm.Cond) (cs : Int32) (aE : Addr) (hS : SB Z cs aE) (k pA mA : Addr) (sa : Int64) (pB mB : Addr) (sb : Int64) (h0 : Heap) (n0 : Nat) (O0 : Old Z n0 h0) (hq : ¬ sa = sb) (hFB : FB Z n0 h0 k pA mA sa pB mB sb) (hKS : KS1 Z h0 k pA sa) :
    Met l my_4 method_3_code 10 (some .int) ws ({ frames := 5, cells := 2, slots := 4, locals := 67 } : Room) #[(.ref k), (.int (2 : Int32)), (.ref pA), (.ref pB), (.long sa), (.long sb), (.int (0 : Int32)), (.int (1 : Int32))] Z h0 (QSN Z k pA mA sa pB mB sb h0 n0) := by
  refine MetFree.of_bodySF (plainFor_of_name pn_3) hisR ?_
  intro p e s m args below meth c s₁ Bd hml0 hP hK
  obtain ⟨rfl, hZ, hh⟩ := hP
  have hx := Bd.exec
  have hby := Bd.bytes
  have hml : c.maxLocals = 10 := hml0
  have hown : s.vm.findClass nKnownO_13 = some m.cls := findClass_of_methodNamed Bd.named
  have hnm := (name_of_methodNamed Bd.named Bd.method).1
  have X0 : Stand p l e ({ frames := 5, cells := 2, slots := 4, locals := 67 } : Room) s m #[(.ref k), (.int (2 : Int32)), (.ref pA), (.ref pB), (.long sa), (.long sb), (.int (0 : Int32)), (.int (1 : Int32))] below meth c s₁ [] 0 0 := Stand.of_body Bd
  have e0 : s₁.heap = h0 := by rw [← hh, Bd.state]; rfl
  have N0 := Fr.nil n0
  obtain ⟨f₀, hf₀⟩ : ∃ f, f = entryFrame m #[(.ref k), (.int (2 : Int32)), (.ref pA), (.ref pB), (.long sa), (.long sb), (.int (0 : Int32)), (.int (1 : Int32))] 10 := ⟨_, rfl⟩
  rw [← hf₀]
  have pre0 : Go p e below s₁ f₀ s₁ (mkF m 0 #[.val (.ref k), .val (.int (2 : Int32)), .val (.ref pA), .val (.ref pB), .val (.long sa), .second, .val (.long sb), .second, .val (.int (0 : Int32)), .val (.int (1 : Int32))] []) := fun t kk => castTop (hf₀.trans (ef_rs_N_A_2 m (k) ((2 : Int32)) (pA) (pB) (sa) (sb) ((0 : Int32)) ((1 : Int32)))) kk
  obtain ⟨Ek, gk, EpA, FpA, EmA, FmA, EpB, FpB, EmB, FmB⟩ := hFB
  obtain ⟨KN1, KN2, KN3⟩ := hKS
  obtain ⟨cq1, kq1, q1a, q1b, q1c⟩ := isOf hZ e0 (Ek)
  obtain ⟨_, _, ⟨T1, L1, k1, n1⟩, -, X1, ⟨Lc1, hQ1, l1, y1, z1⟩, st1⟩ := X0.virtualBack hx (y := my_5) (z := my_5) hown (mvT hZ (wq hw 134 rfl)) (mvT hZ (wq hw 135 rfl)) (notFace_of_selects (args := #[]) (mvT hZ (wq hw 137 rfl))) (mvT hZ (wq hw 137 rfl)) (mvT hZ (wq hw 136 rfl)) (by decide) (backOf (W := 0) (rc13_unname l Z a0 hw [] cs aE hS k sa pA h0 n0 O0 gk Ek KN3 KN1 KN2) hZ (wq hw 138 rfl) (wq hw 33 rfl) (by decide) (by decide)) q1a q1c (g := (mkF m 57 #[.val (.ref k), .val (.int (2 : Int32)), .val (.ref pA), .val (.ref pB), .val (.long sa), .second, .val (.long sb), .second, .val (.int (0 : Int32)), .val (.int (1 : Int32))] [(.long sa), (.ref k)])) rfl (by rw [hml]; rfl) (Steps.refl _) (argsL := [(.long sa)]) (rest := []) (lenOf pd_3 rfl) rfl (by show 2 * 0 + _ ≤ _; exact Nat.le_of_eq rfl) (hb hby d_method_3_57) (fun _ _ => ⟨rfl, e0, (by decide : 0 + 0 ≤ _), (by decide : 0 + 0 ≤ _)⟩)
  dsimp only [Pt.U, Pt.locs, Pt.cells, Pt.slots] at X1 l1 y1 z1 st1 hQ1
  have X1 := own_to X1 l1 y1 z1
  obtain ⟨rfl, N1q, K1, q1_0, q1_1, q1_2, q1_3⟩ := hQ1
  have N1 := Fr.app N0 N1q
  have O2 : Old Z n0 T1.heap := Old.keep O0 K1 (allS gk all0)
  have K3 : Keep h0 T1.heap [k] := (Keep.refl h0 [k]).trans K1 (allS (Or.inl (List.mem_of_getElem? (i := 0) rfl)) all0)
  have t4 : Exa Z T1.heap pA nPredec_4 := (EpA.keep K1)
  have ne5 : pA ≠ k := Exa.ne EpA Ek (by decide)
  have t6 : Fld Z T1.heap pA nPredec_4 "id" nMessag_5 (.ref mA) := (FpA.keep K1 (ninS ne5 nin0))
  have t7 : Exa Z T1.heap mA nMessag_6 := (EmA.keep K1)
  have ne8 : mA ≠ k := Exa.ne EmA Ek (by decide)
  have t9 : Fld Z T1.heap mA nMessag_6 "seq" "J" (.long sa) := (FmA.keep K1 (ninS ne8 nin0))
  have t10 : Exa Z T1.heap pB nPredec_4 := (EpB.keep K1)
  have ne11 : pB ≠ k := Exa.ne EpB Ek (by decide)
  have t12 : Fld Z T1.heap pB nPredec_4 "id" nMessag_5 (.ref mB) := (FpB.keep K1 (ninS ne11 nin0))
  have t13 : Exa Z T1.heap mB nMessag_6 := (EmB.keep K1)
  have ne14 : mB ≠ k := Exa.ne EmB Ek (by decide)
  have t15 : Fld Z T1.heap mB nMessag_6 "seq" "J" (.long sb) := (FmB.keep K1 (ninS ne14 nin0))
  obtain ⟨fs, hr, hrun, hended, hW, hsame⟩ := X1.leave (v := (some (.int (0 : Int32)))) (fun h => by rw [Bd.returns] at h; cases h)
  refine ⟨_, _, pre0 _ ?_, hrun, hended, _, _, rfl, ?_, ⟨_, rfl⟩, hW, hsame.mono (by decide) (by decide)⟩
  · refine XS.iloadN X0.here hx rfl (hb hby d_method_3_0) rfl ?_
    refine XS.ifYes X0.here hx rfl (pc0 := 1) (pc' := 24) rfl (hb hby d_method_3_1) rfl ((if0 _ _).trans (feq (by decide : ¬ ((2 : Int32) = (0 : Int32)))).2) (by decide) (by decide) ?_
    refine XS.iloadN X0.here hx rfl (hb hby d_method_3_24) rfl ?_
    refine XS.iconst X0.here hx rfl (hb hby d_method_3_25) ?_
    refine XS.icmpYes X0.here hx rfl (pc0 := 26) (pc' := 49) rfl (hb hby d_method_3_26) rfl (feq (by decide : ¬ ((2 : Int32) = (1 : Int32)))).2 (by decide) (by decide) ?_
    refine XS.iloadN X0.here hx rfl (hb hby d_method_3_49) rfl ?_
    refine XS.iconst X0.here hx rfl (hb hby d_method_3_50) ?_
    refine XS.icmpNo X0.here hx rfl (hb hby d_method_3_51) rfl (teq (by decide : (2 : Int32) = (2 : Int32))).2 ?_
    refine XS.aloadN X0.here hx rfl (hb hby d_method_3_54) rfl rfl ?_
    refine XS.lload X0.here hx rfl (hb hby d_method_3_55) rfl ?_
    refine st1.trans ?_
    refine XS.pop X1.here hx rfl (hb hby d_method_3_60) rfl rfl ?_
    refine XS.iload X1.here hx rfl (hb hby d_method_3_61) rfl ?_
    refine XS.iload X1.here hx rfl (hb hby d_method_3_63) rfl ?_
    refine XS.ifYes X1.here hx rfl (pc0 := 65) (pc' := 72) rfl (hb hby d_method_3_65) rfl ((if0 _ _).trans (teq (by decide : (0 : Int32) = (0 : Int32))).1) (by decide) (by decide) ?_
    refine XS.iconst X1.here hx rfl (hb hby d_method_3_72) ?_
    refine XS.iand X1.here hx rfl (hb hby d_method_3_73) rfl ?_
    show Steps p.tables e below (T1.setTop (mkF m 74 #[.val (.ref k), .val (.int (2 : Int32)), .val (.ref pA), .val (.ref pB), .val (.long sa), .second, .val (.long sb), .second, .val (.int (0 : Int32)), .val (.int (1 : Int32))] [(.int (0 : Int32))])) _
    exact retI X1 hx Bd.returns (hb hby d_method_3_74) hr
  · show QSN Z k pA mA sa pB mB sb h0 n0 _ T1.heap _
    exact ⟨_, rfl, N1, K3.1, O2, ⟨q1_0, gk, t4, t6, t7, t9, t10, t12, t13, t15⟩, Or.inl ⟨rfl, ⟨_, q1_2, q1_3, q1_1⟩⟩⟩
def Q_rc14_unname (Z : State) (aE : Addr) (a1 : Addr) (j2 : Int64) (a3 : Addr) (j4 : Int64) (h0 : Heap) (n0 : Nat) (v : Option Value) (h : Heap) (L : List Loc) : Prop := v = some .null ∧ Fr n0 L ∧ h = h0
set_option maxRecDepth 65536 in
set_option maxHeartbeats 40000000 in
theorem rc14_unname (l : Launch) (Z : State) (a0 : Array Value) (hw : ∀ d ∈ tables_1, d.before a0 Z = true) (ws : List Jvm.Cond) (cs : Int32) (aE : Addr) (hS : SB Z cs aE) (a1 : Addr) (j2 : Int64) (a3 : Addr) (j4 : Int64) (h0 : Heap) (n0 : Nat) (O0 : Old Z n0 h0) (g_a1 : n0 ≤ a1) (F_a1_alsoNamed : Fld Z h0 a1 nKnownO_3 "alsoNamed" nList_8 .null) (F_a1_named : Fld Z h0 a1 nKnownO_3 "named" nPredec_7 (.ref a3)) (F_a1_namedSeq : Fld Z h0 a1 nKnownO_3 "namedSeq" "J" (.long j4)) (hy0 : ¬ j4 = j2) :
    Met l my_5 prog_22_method_12_code 5 (some (.object nPredec_4)) ws ({ frames := 0, cells := 0, slots := 0, locals := 0 } : Room) #[(.ref a1), (.long j2)] Z h0 (Q_rc14_unname Z aE a1 j2 a3 j4 h0 n0) := by
  refine MetFree.of_bodySF (plainFor_of_name pn_2) hisR ?_
  intro p e s m args below meth c s₁ Bd hml0 hP hK
  obtain ⟨rfl, hZ, hh⟩ := hP
  have hx := Bd.exec
  have hby := Bd.bytes
  have hml : c.maxLocals = 5 := hml0
  have hown : s.vm.findClass nKnownO_3 = some m.cls := findClass_of_methodNamed Bd.named
  have hnm := (name_of_methodNamed Bd.named Bd.method).1
  have X0 : Stand p l e ({ frames := 0, cells := 0, slots := 0, locals := 0 } : Room) s m #[(.ref a1), (.long j2)] below meth c s₁ [] 0 0 := Stand.of_body Bd
  have e0 : s₁.heap = h0 := by rw [← hh, Bd.state]; rfl
  have N0 := Fr.nil n0
  obtain ⟨f₀, hf₀⟩ : ∃ f, f = entryFrame m #[(.ref a1), (.long j2)] 5 := ⟨_, rfl⟩
  rw [← hf₀]
  have pre0 : Go p e below s₁ f₀ s₁ (mkF m 0 #[.val (.ref a1), .val (.long j2), .second, .unset, .unset] []) := fun t kk => castTop (hf₀.trans (ef_rc14_unname m (a1) (j2))) kk
  obtain ⟨T1, X1, e1, st1⟩ := getF X0 hx hZ hown (host := "") (Or.inl (wq hw 128 rfl)) Via.refl e0 F_a1_named (g := (mkF m 1 #[.val (.ref a1), .val (.long j2), .second, .unset, .unset] [(.ref a1)])) rfl rfl (hb hby d_prog_22_method_12_1)
  obtain ⟨T2, X2, e2, st2⟩ := getF X1 hx hZ hown (host := "") (Or.inl (wq hw 154 rfl)) Via.refl e1 F_a1_namedSeq (g := (mkF m 10 #[.val (.ref a1), .val (.long j2), .second, .unset, .unset] [(.ref a1)])) rfl rfl (hb hby d_prog_22_method_12_10)
  obtain ⟨T3, X3, e3, st3⟩ := getF X2 hx hZ hown (host := "") (Or.inl (wq hw 156 rfl)) Via.refl e2 F_a1_alsoNamed (g := (mkF m 96 #[.val (.ref a1), .val (.long j2), .second, .unset, .unset] [(.ref a1)])) rfl rfl (hb hby d_prog_22_method_12_96)
  obtain ⟨fs, hr, hrun, hended, hW, hsame⟩ := X3.leave (v := (some .null)) (fun h => by rw [Bd.returns] at h; cases h)
  refine ⟨_, _, pre0 _ ?_, hrun, hended, _, _, rfl, ?_, ⟨_, rfl⟩, hW, hsame.mono (by decide) (by decide)⟩
  · refine XS.aloadN X0.here hx rfl (hb hby d_prog_22_method_12_0) rfl rfl ?_
    refine st1 _ ?_
    refine XS.ifnonnullYes X1.here hx rfl (pc0 := 4) (pc' := 9) rfl (hb hby d_prog_22_method_12_4) rfl (by decide) (by decide) ?_
    refine XS.aloadN X1.here hx rfl (hb hby d_prog_22_method_12_9) rfl rfl ?_
    refine st2 _ ?_
    refine XS.lloadN X2.here hx rfl (hb hby d_prog_22_method_12_13) rfl ?_
    refine XS.lcmp X2.here hx rfl (hb hby d_prog_22_method_12_14) rfl ?_
    refine XS.ifYes X2.here hx rfl (pc0 := 15) (pc' := 95) rfl (hb hby d_prog_22_method_12_15) rfl ((if0 _ _).trans (feq (fun q => hy0 ((lw_eq _ _).mp q))).2) (by decide) (by decide) ?_
    refine XS.aloadN X2.here hx rfl (hb hby d_prog_22_method_12_95) rfl rfl ?_
    refine st3 _ ?_
    refine XS.ifnullYes X3.here hx rfl (pc0 := 99) (pc' := 182) rfl (hb hby d_prog_22_method_12_99) rfl (by decide) (by decide) ?_
    refine XS.aconstNull X3.here hx rfl (hb hby d_prog_22_method_12_182) ?_
    exact retOut X3 hx Bd.returns rfl (Or.inr (Or.inr (Or.inr (Or.inr ⟨rfl, rfl, rfl⟩)))) (hb hby d_prog_22_method_12_183) hr
  · show Q_rc14_unname Z aE a1 j2 a3 j4 h0 n0 _ T3.heap _
    rw [e3]
    exact ⟨rfl, N0, rfl⟩
set_option maxRecDepth 65536 in
set_option maxHeartbeats 40000000 in
theorem rs_N_A_3 (l : Launch) (Z : State) (a0 : Array Value) (hw : ∀ d ∈ tables_1, d.before a0 Z = true) (ws : List Jvm.Cond) (cs : Int32) (aE : Addr) (hS : SB Z cs aE) (k pA mA : Addr) (sa : Int64) (pB mB : Addr) (sb : Int64) (h0 : Heap) (n0 : Nat) (O0 : Old Z n0 h0) (hq : ¬ sa = sb) (hFB : FB Z n0 h0 k pA mA sa pB mB sb) (hKS : KS1 Z h0 k pA sa) :
    Met l my_4 method_3_code 10 (some .int) ws ({ frames := 5, cells := 2, slots := 4, locals := 67 } : Room) #[(.ref k), (.int (3 : Int32)), (.ref pA), (.ref pB), (.long sa), (.long sb), (.int (0 : Int32)), (.int (1 : Int32))] Z h0 (QSN Z k pA mA sa pB mB sb h0 n0) := by
  refine MetFree.of_bodySF (plainFor_of_name pn_3) hisR ?_
  intro p e s m args below meth c s₁ Bd hml0 hP hK
  obtain ⟨rfl, hZ, hh⟩ := hP
  have hx := Bd.exec
  have hby := Bd.bytes
  have hml : c.maxLocals = 10 := hml0
  have hown : s.vm.findClass nKnownO_13 = some m.cls := findClass_of_methodNamed Bd.named
  have hnm := (name_of_methodNamed Bd.named Bd.method).1
  have X0 : Stand p l e ({ frames := 5, cells := 2, slots := 4, locals := 67 } : Room) s m #[(.ref k), (.int (3 : Int32)), (.ref pA), (.ref pB), (.long sa), (.long sb), (.int (0 : Int32)), (.int (1 : Int32))] below meth c s₁ [] 0 0 := Stand.of_body Bd
  have e0 : s₁.heap = h0 := by rw [← hh, Bd.state]; rfl
  have N0 := Fr.nil n0
  obtain ⟨f₀, hf₀⟩ : ∃ f, f = entryFrame m #[(.ref k), (.int (3 : Int32)), (.ref pA), (.ref pB), (.long sa), (.long sb), (.int (0 : Int32)), (.int (1 : Int32))] 10 := ⟨_, rfl⟩
  rw [← hf₀]
  have pre0 : Go p e below s₁ f₀ s₁ (mkF m 0 #[.val (.ref k), .val (.int (3 : Int32)), .val (.ref pA), .val (.ref pB), .val (.long sa), .second, .val (.long sb), .second, .val (.int (0 : Int32)), .val (.int (1 : Int32))] []) := fun t kk => castTop (hf₀.trans (ef_rs_N_A_3 m (k) ((3 : Int32)) (pA) (pB) (sa) (sb) ((0 : Int32)) ((1 : Int32)))) kk
  obtain ⟨Ek, gk, EpA, FpA, EmA, FmA, EpB, FpB, EmB, FmB⟩ := hFB
  obtain ⟨KN1, KN2, KN3⟩ := hKS
  obtain ⟨cq1, kq1, q1a, q1b, q1c⟩ := isOf hZ e0 (Ek)
  obtain ⟨_, _, ⟨T1, L1, k1, n1⟩, -, X1, ⟨Lc1, hQ1, l1, y1, z1⟩, st1⟩ := X0.virtualBack hx (y := my_5) (z := my_5) hown (mvT hZ (wq hw 134 rfl)) (mvT hZ (wq hw 135 rfl)) (notFace_of_selects (args := #[]) (mvT hZ (wq hw 137 rfl))) (mvT hZ (wq hw 137 rfl)) (mvT hZ (wq hw 136 rfl)) (by decide) (backOf (W := 0) (rc14_unname l Z a0 hw [] cs aE hS k sb pA sa h0 n0 O0 gk KN3 KN1 KN2 hq) hZ (wq hw 138 rfl) (wq hw 33 rfl) (by decide) (by decide)) q1a q1c (g := (mkF m 78 #[.val (.ref k), .val (.int (3 : Int32)), .val (.ref pA), .val (.ref pB), .val (.long sa), .second, .val (.long sb), .second, .val (.int (0 : Int32)), .val (.int (1 : Int32))] [(.long sb), (.ref k)])) rfl (by rw [hml]; rfl) (Steps.refl _) (argsL := [(.long sb)]) (rest := []) (lenOf pd_3 rfl) rfl (by show 2 * 0 + _ ≤ _; exact Nat.le_of_eq rfl) (hb hby d_method_3_78) (fun _ _ => ⟨rfl, e0, (by decide : 0 + 0 ≤ _), (by decide : 0 + 0 ≤ _)⟩)
  dsimp only [Pt.U, Pt.locs, Pt.cells, Pt.slots] at X1 l1 y1 z1 st1 hQ1
  have X1 := own_to X1 l1 y1 z1
  obtain ⟨rfl, N1q, e1⟩ := hQ1
  have N1 := Fr.app N0 N1q
  obtain ⟨fs, hr, hrun, hended, hW, hsame⟩ := X1.leave (v := (some (.int (1 : Int32)))) (fun h => by rw [Bd.returns] at h; cases h)
  refine ⟨_, _, pre0 _ ?_, hrun, hended, _, _, rfl, ?_, ⟨_, rfl⟩, hW, hsame.mono (by decide) (by decide)⟩
  · refine XS.iloadN X0.here hx rfl (hb hby d_method_3_0) rfl ?_
    refine XS.ifYes X0.here hx rfl (pc0 := 1) (pc' := 24) rfl (hb hby d_method_3_1) rfl ((if0 _ _).trans (feq (by decide : ¬ ((3 : Int32) = (0 : Int32)))).2) (by decide) (by decide) ?_
    refine XS.iloadN X0.here hx rfl (hb hby d_method_3_24) rfl ?_
    refine XS.iconst X0.here hx rfl (hb hby d_method_3_25) ?_
    refine XS.icmpYes X0.here hx rfl (pc0 := 26) (pc' := 49) rfl (hb hby d_method_3_26) rfl (feq (by decide : ¬ ((3 : Int32) = (1 : Int32)))).2 (by decide) (by decide) ?_
    refine XS.iloadN X0.here hx rfl (hb hby d_method_3_49) rfl ?_
    refine XS.iconst X0.here hx rfl (hb hby d_method_3_50) ?_
    refine XS.icmpYes X0.here hx rfl (pc0 := 51) (pc' := 75) rfl (hb hby d_method_3_51) rfl (feq (by decide : ¬ ((3 : Int32) = (2 : Int32)))).2 (by decide) (by decide) ?_
    refine XS.aloadN X0.here hx rfl (hb hby d_method_3_75) rfl rfl ?_
    refine XS.lload X0.here hx rfl (hb hby d_method_3_76) rfl ?_
    refine st1.trans ?_
    refine XS.pop X1.here hx rfl (hb hby d_method_3_81) rfl rfl ?_
    refine XS.iload X1.here hx rfl (hb hby d_method_3_82) rfl ?_
    refine XS.iload X1.here hx rfl (hb hby d_method_3_84) rfl ?_
    refine XS.ifYes X1.here hx rfl (pc0 := 86) (pc' := 93) rfl (hb hby d_method_3_86) rfl ((if0 _ _).trans (teq (by decide : (0 : Int32) = (0 : Int32))).1) (by decide) (by decide) ?_
    refine XS.iconst X1.here hx rfl (hb hby d_method_3_93) ?_
    refine XS.iand X1.here hx rfl (hb hby d_method_3_94) rfl ?_
    show Steps p.tables e below (T1.setTop (mkF m 95 #[.val (.ref k), .val (.int (3 : Int32)), .val (.ref pA), .val (.ref pB), .val (.long sa), .second, .val (.long sb), .second, .val (.int (0 : Int32)), .val (.int (1 : Int32))] [(.int (1 : Int32))])) _
    exact retI X1 hx Bd.returns (hb hby d_method_3_95) hr
  · show QSN Z k pA mA sa pB mB sb h0 n0 _ T1.heap _
    rw [e1]
    exact ⟨_, rfl, N1, Nat.le_refl _, O0, ⟨Ek, gk, EpA, FpA, EmA, FmA, EpB, FpB, EmB, FmB⟩, Or.inr (Or.inl ⟨rfl, ⟨KN1, KN2, KN3⟩⟩)⟩
def Q_rc15_name (Z : State) (aE : Addr) (a1 : Addr) (a2 : Addr) (a3 : Addr) (j4 : Int64) (a5 : Addr) (a6 : Addr) (j7 : Int64) (h0 : Heap) (n0 : Nat) (v : Option Value) (h : Heap) (L : List Loc) : Prop := ∃ (b6 : Addr), ∃ (x24_b4 : Addr), ∃ (x24_k4 : ClassId), v = some .null ∧ Fr n0 L ∧ Keep h0 h [a1] ∧ h0.size ≤ b6 ∧ h0.size ≤ x24_b4 ∧ Exa Z h a1 nKnownO_3 ∧ Fld Z h a1 nKnownO_3 "alsoNamed" nList_8 (.ref b6) ∧ Fld Z h a1 nKnownO_3 "named" nPredec_7 (.ref a3) ∧ Fld Z h a1 nKnownO_3 "namedSeq" "J" (.long j4) ∧ Exa Z h b6 nArrayL_9 ∧ Fld Z h b6 nArrayL_9 "elementData" nObject_10 (.ref x24_b4) ∧ Fld Z h b6 nAbstra_11 "modCount" "I" (.int (1 : Int32)) ∧ Fld Z h b6 nArrayL_9 "size" "I" (.int (1 : Int32)) ∧ Arv Z h x24_b4 x24_k4 (.object nObject_12) (1 : Int32) [(.ref a2)] .null ∧ Ovr Z x24_k4 nObject_12
set_option maxRecDepth 65536 in
set_option maxHeartbeats 40000000 in
theorem rc15_name (l : Launch) (Z : State) (a0 : Array Value) (hw : ∀ d ∈ tables_1, d.before a0 Z = true) (ws : List Jvm.Cond) (cs : Int32) (aE : Addr) (hS : SB Z cs aE) (a1 : Addr) (a2 : Addr) (a3 : Addr) (j4 : Int64) (a5 : Addr) (a6 : Addr) (j7 : Int64) (h0 : Heap) (n0 : Nat) (O0 : Old Z n0 h0) (g_a1 : n0 ≤ a1) (E_a1 : Exa Z h0 a1 nKnownO_3) (F_a1_alsoNamed : Fld Z h0 a1 nKnownO_3 "alsoNamed" nList_8 .null) (F_a1_named : Fld Z h0 a1 nKnownO_3 "named" nPredec_7 (.ref a3)) (F_a1_namedSeq : Fld Z h0 a1 nKnownO_3 "namedSeq" "J" (.long j4)) (E_a2 : Exa Z h0 a2 nPredec_4) (F_a2_id : Fld Z h0 a2 nPredec_4 "id" nMessag_5 (.ref a5)) (E_a3 : Exa Z h0 a3 nPredec_4) (E_a5 : Exa Z h0 a5 nMessag_6) (F_a5_seq : Fld Z h0 a5 nMessag_6 "seq" "J" (.long j7)) (E_a6 : Exa Z h0 a6 nMessag_6) (hy0 : ¬ j7 = j4) :
    Met l my_3 prog_22_method_11_code 5 (some (.object nPredec_4)) ws ({ frames := 4, cells := 2, slots := 4, locals := 51 } : Room) #[(.ref a1), (.ref a2)] Z h0 (Q_rc15_name Z aE a1 a2 a3 j4 a5 a6 j7 h0 n0) := by
  refine MetFree.of_bodySF (plainFor_of_name pn_2) hisR ?_
  intro p e s m args below meth c s₁ Bd hml0 hP hK
  obtain ⟨rfl, hZ, hh⟩ := hP
  have hx := Bd.exec
  have hby := Bd.bytes
  have hml : c.maxLocals = 5 := hml0
  have hown : s.vm.findClass nKnownO_3 = some m.cls := findClass_of_methodNamed Bd.named
  have hnm := (name_of_methodNamed Bd.named Bd.method).1
  have X0 : Stand p l e ({ frames := 4, cells := 2, slots := 4, locals := 51 } : Room) s m #[(.ref a1), (.ref a2)] below meth c s₁ [] 0 0 := Stand.of_body Bd
  have e0 : s₁.heap = h0 := by rw [← hh, Bd.state]; rfl
  have N0 := Fr.nil n0
  obtain ⟨f₀, hf₀⟩ : ∃ f, f = entryFrame m #[(.ref a1), (.ref a2)] 5 := ⟨_, rfl⟩
  rw [← hf₀]
  have pre0 : Go p e below s₁ f₀ s₁ (mkF m 0 #[.val (.ref a1), .val (.ref a2), .unset, .unset, .unset] []) := fun t kk => castTop (hf₀.trans (ef_rc15_name m (a1) (a2))) kk
  obtain ⟨cq1, kq1, q1a, q1b, q1c⟩ := isOf hZ e0 (E_a2)
  obtain ⟨_, _, ⟨T1, L1, k1, n1⟩, -, X1, ⟨Lc1, hQ1, l1, y1, z1⟩, st1⟩ := X0.virtualBack hx (y := my_1) (z := my_1) hown (mvT hZ (wq hw 144 rfl)) (mvT hZ (wq hw 145 rfl)) (notFace_of_selects (args := #[]) (mvT hZ (wq hw 147 rfl))) (mvT hZ (wq hw 147 rfl)) (mvT hZ (wq hw 146 rfl)) (by decide) (backOf (W := 0) (rc2_id l Z a0 hw [] cs aE hS a2 a5 h0 n0 O0 F_a2_id) hZ (wq hw 148 rfl) (wq hw 63 rfl) (by decide) (by decide)) q1a q1c (g := (mkF m 1 #[.val (.ref a1), .val (.ref a2), .unset, .unset, .unset] [(.ref a2)])) rfl (by rw [hml]; rfl) (Steps.refl _) (argsL := []) (rest := []) (lenOf pd_0 rfl) rfl (by show 2 * 0 + _ ≤ _; exact Nat.le_of_eq rfl) (hb hby d_prog_22_method_11_1) (fun _ _ => ⟨rfl, e0, (by decide : 0 + 0 ≤ _), (by decide : 0 + 0 ≤ _)⟩)
  dsimp only [Pt.U, Pt.locs, Pt.cells, Pt.slots] at X1 l1 y1 z1 st1 hQ1
  have X1 := own_to X1 l1 y1 z1
  obtain ⟨rfl, N1q, e1⟩ := hQ1
  have N1 := Fr.app N0 N1q
  obtain ⟨cq2, kq2, q2a, q2b, q2c⟩ := isOf hZ e1 (E_a5)
  obtain ⟨_, _, ⟨T2, L2, k2, n2⟩, -, X2, ⟨Lc2, hQ2, l2, y2, z2⟩, st2⟩ := X1.virtualBack hx (y := my_2) (z := my_2) hown (mvT hZ (wq hw 149 rfl)) (mvT hZ (wq hw 150 rfl)) (notFace_of_selects (args := #[]) (mvT hZ (wq hw 152 rfl))) (mvT hZ (wq hw 152 rfl)) (mvT hZ (wq hw 151 rfl)) (by decide) (backOf (W := 0) (rc3_seq l Z a0 hw [] cs aE hS a5 j7 h0 n0 O0 F_a5_seq) hZ (wq hw 153 rfl) (wq hw 66 rfl) (by decide) (by decide)) q2a q2c (g := (mkF m 4 #[.val (.ref a1), .val (.ref a2), .unset, .unset, .unset] [(.ref a5)])) rfl (by rw [hml]; rfl) (Steps.refl _) (argsL := []) (rest := []) (lenOf pd_1 rfl) rfl (by show 2 * 0 + _ ≤ _; exact Nat.le_of_eq rfl) (hb hby d_prog_22_method_11_4) (fun _ _ => ⟨rfl, e1, (by decide : 0 + 0 ≤ _), (by decide : 0 + 0 ≤ _)⟩)
  dsimp only [Pt.U, Pt.locs, Pt.cells, Pt.slots] at X2 l2 y2 z2 st2 hQ2
  have X2 := own_to X2 l2 y2 z2
  obtain ⟨rfl, N2q, e2⟩ := hQ2
  have N2 := Fr.app N1 N2q
  obtain ⟨T3, X3, e3, st3⟩ := getF X2 hx hZ hown (host := "") (Or.inl (wq hw 128 rfl)) Via.refl e2 F_a1_named (g := (mkF m 9 #[.val (.ref a1), .val (.ref a2), .val (.long j7), .second, .unset] [(.ref a1)])) rfl rfl (hb hby d_prog_22_method_11_9)
  obtain ⟨T4, X4, e4, st4⟩ := getF X3 hx hZ hown (host := "") (Or.inl (wq hw 154 rfl)) Via.refl e3 F_a1_namedSeq (g := (mkF m 16 #[.val (.ref a1), .val (.ref a2), .val (.long j7), .second, .unset] [(.ref a1)])) rfl rfl (hb hby d_prog_22_method_11_16)
  obtain ⟨T5, X5, e5, st5⟩ := getF X4 hx hZ hown (host := "") (Or.inl (wq hw 156 rfl)) Via.refl e4 F_a1_alsoNamed (g := (mkF m 44 #[.val (.ref a1), .val (.ref a2), .val (.long j7), .second, .unset] [(.ref a1)])) rfl rfl (hb hby d_prog_22_method_11_44)
  obtain ⟨T6, h6, X6, e6, E6, A6, D6, -, st6⟩ := newO X5 hx hZ hown (wq hw 158 rfl) (wq hw 159 rfl) (wq hw 160 rfl) e5 (g := (mkF m 51 #[.val (.ref a1), .val (.ref a2), .val (.long j7), .second, .unset] [(.ref a1)])) rfl (hb hby d_prog_22_method_11_51) (by decide) (by decide)
  obtain ⟨b6, gb6⟩ : ∃ z, z = h0.size := ⟨_, rfl⟩
  rw [← gb6] at A6 D6 st6
  have ne7 : a1 ≠ b6 := Nat.ne_of_lt (Nat.lt_of_lt_of_le E_a1.lt (Nat.le_of_eq gb6.symm))
  have ne8 : a2 ≠ b6 := Nat.ne_of_lt (Nat.lt_of_lt_of_le E_a2.lt (Nat.le_of_eq gb6.symm))
  have ne9 : a3 ≠ b6 := Nat.ne_of_lt (Nat.lt_of_lt_of_le E_a3.lt (Nat.le_of_eq gb6.symm))
  have ne10 : a5 ≠ b6 := Nat.ne_of_lt (Nat.lt_of_lt_of_le E_a5.lt (Nat.le_of_eq gb6.symm))
  have ne11 : a6 ≠ b6 := Nat.ne_of_lt (Nat.lt_of_lt_of_le E_a6.lt (Nat.le_of_eq gb6.symm))
  have g12 : n0 ≤ b6 := Nat.le_trans (Nat.le_of_eq O0.1.symm) (Nat.le_trans O0.2.1 (Nat.le_of_eq gb6.symm))
  have s13 : h0.size ≤ b6 := Nat.le_trans (Keep.refl h0 [a1]).1 (Nat.le_of_eq gb6.symm)
  have O14 : Old Z n0 h6 := Old.ext O0 E6
  have K15 : Keep h0 h6 [a1] := (Keep.refl h0 [a1]).ext E6
  have f16 : Fld Z h6 b6 nAbstra_11 "modCount" "I" (.int (0 : Int32)) := D6 (Or.inl (wq hw 178 rfl)) (ty := .int) (by decide)
  have f17 : Fld Z h6 b6 nArrayL_9 "elementData" nObject_10 .null := D6 (Or.inl (wq hw 182 rfl)) (ty := (.array (.object nObject_12))) (by decide)
  have f18 : Fld Z h6 b6 nArrayL_9 "size" "I" (.int (0 : Int32)) := D6 (Or.inl (wq hw 193 rfl)) (ty := .int) (by decide)
  have t19 : Exa Z h6 a1 nKnownO_3 := (E_a1.ext E6)
  have t20 : Exa Z h6 a2 nPredec_4 := (E_a2.ext E6)
  have t21 : Exa Z h6 a3 nPredec_4 := (E_a3.ext E6)
  have t22 : Exa Z h6 a5 nMessag_6 := (E_a5.ext E6)
  have t23 : Exa Z h6 a6 nMessag_6 := (E_a6.ext E6)
  obtain ⟨_, _, ⟨T24, L24, k24, n24⟩, -, X24, ⟨Lc24, hQ24, l24, y24, z24⟩, st24⟩ := X6.specialBack hx (y := my_8) rfl hown (mvT hZ (wq hw 161 rfl)) (mvT hZ (wq hw 162 rfl)) (mvT hZ (wq hw 163 rfl)) (by decide) (backOf (W := 2) (rc7_init l Z a0 hw [] cs aE hS b6 h6 n0 O14 g12 A6 f17 f16 f18) hZ (wq hw 163 rfl) (wq hw 160 rfl) (by decide) (by decide)) (g := (mkF m 56 #[.val (.ref a1), .val (.ref a2), .val (.long j7), .second, .unset] [(.int (1 : Int32)), (.ref b6), (.ref b6), (.ref a1)])) rfl (by rw [hml]; rfl) (Steps.refl _) (a := b6) (argsL := [(.int (1 : Int32))]) (rest := [(.ref b6), (.ref a1)]) (lenOf pd_5 rfl) rfl (by show 2 * 0 + _ ≤ _; exact Nat.le_of_eq rfl) (hb hby d_prog_22_method_11_56) (fun _ _ => ⟨rfl, e6, (by decide : 1 + 1 ≤ _), (by decide : 3 + 1 ≤ _)⟩)
  dsimp only [Pt.U, Pt.locs, Pt.cells, Pt.slots] at X24 l24 y24 z24 st24 hQ24
  have X24 := own_to X24 l24 y24 z24
  obtain ⟨x24_b4, x24_k4, rfl, N24q, K24, sz24_b4, q24_0, q24_1, q24_2, q24_3, q24_4, q24_5⟩ := hQ24
  have N24 := Fr.app N2 N24q
  have g25 : n0 ≤ x24_b4 := Nat.le_trans (Nat.le_of_eq O14.1.symm) (Nat.le_trans O14.2.1 sz24_b4)
  have s26 : h0.size ≤ x24_b4 := Nat.le_trans K15.1 sz24_b4
  have ne27 : a1 ≠ x24_b4 := Nat.ne_of_lt (Nat.lt_of_lt_of_le t19.lt sz24_b4)
  have ne28 : a2 ≠ x24_b4 := Nat.ne_of_lt (Nat.lt_of_lt_of_le t20.lt sz24_b4)
  have ne29 : a3 ≠ x24_b4 := Nat.ne_of_lt (Nat.lt_of_lt_of_le t21.lt sz24_b4)
  have ne30 : a5 ≠ x24_b4 := Nat.ne_of_lt (Nat.lt_of_lt_of_le t22.lt sz24_b4)
  have ne31 : a6 ≠ x24_b4 := Nat.ne_of_lt (Nat.lt_of_lt_of_le t23.lt sz24_b4)
  have ne32 : b6 ≠ x24_b4 := Nat.ne_of_lt (Nat.lt_of_lt_of_le A6.lt sz24_b4)
  have O33 : Old Z n0 T24.heap := Old.keep O14 K24 (allS g12 all0)
  have K34 : Keep h0 T24.heap [a1] := K15.trans K24 (allS (Or.inr s13) all0)
  have t35 : Exa Z T24.heap a1 nKnownO_3 := (t19.keep K24)
  have t36 : Fld Z T24.heap a1 nKnownO_3 "alsoNamed" nList_8 .null := ((F_a1_alsoNamed.ext E6).keep K24 (ninS ne7 nin0))
  obtain ⟨T37, h37, X37, e37, W37, st37⟩ := putF X24 hx hZ hown (host := "") (Or.inl (wq hw 156 rfl)) Via.refl rfl t36 t35 (Or.inl (wq hw 157 rfl)) (wq hw 32 rfl) (ty := (.object "java/util/List")) (by decide) rfl rfl (g := (mkF m 59 #[.val (.ref a1), .val (.ref a2), .val (.long j7), .second, .unset] [(.ref b6), (.ref a1)])) rfl rfl (hb hby d_prog_22_method_11_59)
  have f38 : Fld Z h37 a1 nKnownO_3 "alsoNamed" nList_8 (.ref b6) := t36.same W37
  have N37 := Fr.snoc X37 N24 g_a1
  have O39 : Old Z n0 h37 := Old.wr O33 W37 g_a1
  have K40 : Keep h0 h37 [a1] := K34.wr W37 (Or.inl (List.mem_of_getElem? (i := 0) rfl))
  obtain ⟨T41, X41, e41, st41⟩ := getF X37 hx hZ hown (host := "") (Or.inl (wq hw 156 rfl)) Via.refl e37 f38 (g := (mkF m 68 #[.val (.ref a1), .val (.ref a2), .val (.long j7), .second, .val (.int (0 : Int32))] [(.ref a1), (.int (0 : Int32))])) rfl rfl (hb hby d_prog_22_method_11_68)
  have t42 : Exa Z h37 b6 nArrayL_9 := (q24_0.wr W37)
  have t43 : Fld Z h37 b6 nArrayL_9 "size" "I" (.int (0 : Int32)) := (q24_3.other W37 (Or.inl (Ne.symm ne7)))
  obtain ⟨cq44, kq44, q44a, q44b, q44c⟩ := isOf hZ e41 (t42)
  obtain ⟨_, _, ⟨T44, L44, k44, n44⟩, -, X44, ⟨Lc44, hQ44, l44, y44, z44⟩, st44⟩ := X41.interfaceBack hx (xi := my_12) (y := my_9) hown (mvT hZ (wq hw 183 rfl)) (mvT hZ (wq hw 184 rfl)) (mvT hZ (wq hw 185 rfl)) (mvT hZ (wq hw 186 rfl)) (mvT hZ (wq hw 187 rfl)) (mvT hZ (wq hw 188 rfl)) (mvT hZ (wq hw 189 rfl)) (mvT hZ (wq hw 190 rfl)) (by decide) (backOf (W := 1) (rc10_size l Z a0 hw [] cs aE hS b6 h37 n0 O39 g12 t43) hZ (wq hw 191 rfl) (wq hw 160 rfl) (by decide) (by decide)) q44a q44b q44c (g := (mkF m 71 #[.val (.ref a1), .val (.ref a2), .val (.long j7), .second, .val (.int (0 : Int32))] [(.ref b6), (.int (0 : Int32))])) rfl (by rw [hml]; rfl) (Steps.refl _) (argsL := []) (rest := [(.int (0 : Int32))]) (lenOf pd_6 rfl) rfl (by show 2 * 0 + _ ≤ _; exact Nat.le_of_eq rfl) (hb hby d_prog_22_method_11_71) (fun _ _ => ⟨rfl, e41, (by decide : 2 + 0 ≤ _), (by decide : 4 + 0 ≤ _)⟩)
  dsimp only [Pt.U, Pt.locs, Pt.cells, Pt.slots] at X44 l44 y44 z44 st44 hQ44
  have X44 := own_to X44 l44 y44 z44
  obtain ⟨rfl, N44q, e44⟩ := hQ44
  have N44 := Fr.app N37 N44q
  obtain ⟨T45, X45, e45, st45⟩ := getF X44 hx hZ hown (host := "") (Or.inl (wq hw 156 rfl)) Via.refl e44 f38 (g := (mkF m 127 #[.val (.ref a1), .val (.ref a2), .val (.long j7), .second, .val (.int (0 : Int32))] [(.ref a1)])) rfl rfl (hb hby d_prog_22_method_11_127)
  have t46 : Fld Z h37 b6 nArrayL_9 "elementData" nObject_10 (.ref x24_b4) := (q24_1.other W37 (Or.inl (Ne.symm ne7)))
  have t47 : Fld Z h37 b6 nAbstra_11 "modCount" "I" (.int (0 : Int32)) := (q24_2.other W37 (Or.inl (Ne.symm ne7)))
  have t48 : Exa Z h37 a2 nPredec_4 := ((t20.keep K24).wr W37)
  have t49 : Arv Z h37 x24_b4 x24_k4 (.object nObject_12) (1 : Int32) [.null] .null := (q24_4.other W37 (Ne.symm ne27))
  obtain ⟨cq50, kq50, q50a, q50b, q50c⟩ := isOf hZ e45 (t42)
  obtain ⟨_, _, ⟨T50, L50, k50, n50⟩, -, X50, ⟨Lc50, hQ50, l50, y50, z50⟩, st50⟩ := X45.interfaceBack hx (xi := my_13) (y := my_11) hown (mvT hZ (wq hw 194 rfl)) (mvT hZ (wq hw 195 rfl)) (mvT hZ (wq hw 196 rfl)) (mvT hZ (wq hw 197 rfl)) (mvT hZ (wq hw 198 rfl)) (mvT hZ (wq hw 199 rfl)) (mvT hZ (wq hw 200 rfl)) (mvT hZ (wq hw 190 rfl)) (by decide) (backOf (W := 0) (rc11_add l Z a0 hw [] cs aE hS b6 a2 x24_b4 x24_k4 h37 n0 O39 g12 g25 t42 t46 t47 t43 t48 t49 q24_5) hZ (wq hw 201 rfl) (wq hw 160 rfl) (by decide) (by decide)) q50a q50b q50c (g := (mkF m 131 #[.val (.ref a1), .val (.ref a2), .val (.long j7), .second, .val (.int (0 : Int32))] [(.ref a2), (.ref b6)])) rfl (by rw [hml]; rfl) (Steps.refl _) (argsL := [(.ref a2)]) (rest := []) (lenOf pd_8 rfl) rfl (by show 2 * 0 + _ ≤ _; exact Nat.le_of_eq rfl) (hb hby d_prog_22_method_11_131) (fun _ _ => ⟨rfl, e45, (by decide : 2 + 0 ≤ _), (by decide : 4 + 0 ≤ _)⟩)
  dsimp only [Pt.U, Pt.locs, Pt.cells, Pt.slots] at X50 l50 y50 z50 st50 hQ50
  have X50 := own_to X50 l50 y50 z50
  obtain ⟨rfl, N50q, K50, q50_0, q50_1, q50_2, q50_3, q50_4, q50_5⟩ := hQ50
  have N50 := Fr.app N44 N50q
  have O51 : Old Z n0 T50.heap := Old.keep O39 K50 (allS g12 (allS g25 all0))
  have K52 : Keep h0 T50.heap [a1] := K40.trans K50 (allS (Or.inr s13) (allS (Or.inr s26) all0))
  have t53 : Exa Z T50.heap a1 nKnownO_3 := ((t35.wr W37).keep K50)
  have t54 : Fld Z T50.heap a1 nKnownO_3 "alsoNamed" nList_8 (.ref b6) := (f38.keep K50 (ninS ne7 (ninS ne27 nin0)))
  have t55 : Fld Z T50.heap a1 nKnownO_3 "named" nPredec_7 (.ref a3) := ((((F_a1_named.ext E6).keep K24 (ninS ne7 nin0)).other W37 (Or.inr (slot_ne (Or.inl (wq hw 129 rfl)) (Or.inl (wq hw 157 rfl)) (by decide) (t := (.object nPredec_4)) (t' := (.object "java/util/List")) (by decide) (by decide)))).keep K50 (ninS ne7 (ninS ne27 nin0)))
  have t56 : Fld Z T50.heap a1 nKnownO_3 "namedSeq" "J" (.long j4) := ((((F_a1_namedSeq.ext E6).keep K24 (ninS ne7 nin0)).other W37 (Or.inr (slot_ne (Or.inl (wq hw 155 rfl)) (Or.inl (wq hw 157 rfl)) (by decide) (t := .long) (t' := (.object "java/util/List")) (by decide) (by decide)))).keep K50 (ninS ne7 (ninS ne27 nin0)))
  obtain ⟨fs, hr, hrun, hended, hW, hsame⟩ := X50.leave (v := (some .null)) (fun h => by rw [Bd.returns] at h; cases h)
  refine ⟨_, _, pre0 _ ?_, hrun, hended, _, _, rfl, ?_, ⟨_, rfl⟩, hW, hsame.mono (by decide) (by decide)⟩
  · refine XS.aloadN X0.here hx rfl (hb hby d_prog_22_method_11_0) rfl rfl ?_
    refine st1.trans ?_
    refine st2.trans ?_
    refine XS.lstoreN X2.here hx rfl (hb hby d_prog_22_method_11_7) rfl (l' := #[.val (.ref a1), .val (.ref a2), .val (.long j7), .second, .unset]) rfl ?_
    refine XS.aloadN X2.here hx rfl (hb hby d_prog_22_method_11_8) rfl rfl ?_
    refine st3 _ ?_
    refine XS.ifnullNo X3.here hx rfl (hb hby d_prog_22_method_11_12) rfl ?_
    refine XS.aloadN X3.here hx rfl (hb hby d_prog_22_method_11_15) rfl rfl ?_
    refine st4 _ ?_
    refine XS.lloadN X4.here hx rfl (hb hby d_prog_22_method_11_19) rfl ?_
    refine XS.lcmp X4.here hx rfl (hb hby d_prog_22_method_11_20) rfl ?_
    refine XS.ifYes X4.here hx rfl (pc0 := 21) (pc' := 43) rfl (hb hby d_prog_22_method_11_21) rfl ((if0 _ _).trans (feq (fun q => (fun q => hy0 (Eq.symm q)) ((lw_eq _ _).mp q))).2) (by decide) (by decide) ?_
    refine XS.aloadN X4.here hx rfl (hb hby d_prog_22_method_11_43) rfl rfl ?_
    refine st5 _ ?_
    refine XS.ifnonnullNo X5.here hx rfl (hb hby d_prog_22_method_11_47) rfl ?_
    refine XS.aloadN X5.here hx rfl (hb hby d_prog_22_method_11_50) rfl rfl ?_
    refine st6 _ ?_
    refine XS.dup X6.here hx rfl (hb hby d_prog_22_method_11_54) rfl rfl ?_
    refine XS.iconst X6.here hx rfl (hb hby d_prog_22_method_11_55) ?_
    refine st24.trans ?_
    refine st37 _ ?_
    refine XS.iconst X37.here hx rfl (hb hby d_prog_22_method_11_62) ?_
    refine XS.istore X37.here hx rfl (hb hby d_prog_22_method_11_63) rfl (l' := #[.val (.ref a1), .val (.ref a2), .val (.long j7), .second, .val (.int (0 : Int32))]) rfl ?_
    refine XS.iload X37.here hx rfl (hb hby d_prog_22_method_11_65) rfl ?_
    refine XS.aloadN X37.here hx rfl (hb hby d_prog_22_method_11_67) rfl rfl ?_
    refine st41 _ ?_
    refine st44.trans ?_
    refine XS.icmpYes X44.here hx rfl (pc0 := 76) (pc' := 126) rfl (hb hby d_prog_22_method_11_76) rfl (flt (by decide : ¬ ((0 : Int32) < (0 : Int32)))).2.1 (by decide) (by decide) ?_
    refine XS.aloadN X44.here hx rfl (hb hby d_prog_22_method_11_126) rfl rfl ?_
    refine st45 _ ?_
    refine XS.aloadN X45.here hx rfl (hb hby d_prog_22_method_11_130) rfl rfl ?_
    refine st50.trans ?_
    refine XS.pop X50.here hx rfl (hb hby d_prog_22_method_11_136) rfl rfl ?_
    refine XS.aconstNull X50.here hx rfl (hb hby d_prog_22_method_11_137) ?_
    exact retOut X50 hx Bd.returns rfl (Or.inr (Or.inr (Or.inr (Or.inr ⟨rfl, rfl, rfl⟩)))) (hb hby d_prog_22_method_11_138) hr
  · show Q_rc15_name Z aE a1 a2 a3 j4 a5 a6 j7 h0 n0 _ T50.heap _
    exact ⟨b6, x24_b4, x24_k4, rfl, N50, K52, s13, s26, t53, t54, t55, t56, q50_0, q50_1, q50_2, q50_3, q50_4, q50_5⟩
set_option maxRecDepth 65536 in
set_option maxHeartbeats 40000000 in
theorem rs_N_B_0 (l : Launch) (Z : State) (a0 : Array Value) (hw : ∀ d ∈ tables_1, d.before a0 Z = true) (ws : List Jvm.Cond) (cs : Int32) (aE : Addr) (hS : SB Z cs aE) (k pA mA : Addr) (sa : Int64) (pB mB : Addr) (sb : Int64) (h0 : Heap) (n0 : Nat) (O0 : Old Z n0 h0) (hq : ¬ sa = sb) (hFB : FB Z n0 h0 k pA mA sa pB mB sb) (hKS : KS1 Z h0 k pB sb) :
    Met l my_4 method_3_code 10 (some .int) ws ({ frames := 5, cells := 2, slots := 4, locals := 67 } : Room) #[(.ref k), (.int (0 : Int32)), (.ref pA), (.ref pB), (.long sa), (.long sb), (.int (0 : Int32)), (.int (2 : Int32))] Z h0 (QSN Z k pA mA sa pB mB sb h0 n0) := by
  refine MetFree.of_bodySF (plainFor_of_name pn_3) hisR ?_
  intro p e s m args below meth c s₁ Bd hml0 hP hK
  obtain ⟨rfl, hZ, hh⟩ := hP
  have hx := Bd.exec
  have hby := Bd.bytes
  have hml : c.maxLocals = 10 := hml0
  have hown : s.vm.findClass nKnownO_13 = some m.cls := findClass_of_methodNamed Bd.named
  have hnm := (name_of_methodNamed Bd.named Bd.method).1
  have X0 : Stand p l e ({ frames := 5, cells := 2, slots := 4, locals := 67 } : Room) s m #[(.ref k), (.int (0 : Int32)), (.ref pA), (.ref pB), (.long sa), (.long sb), (.int (0 : Int32)), (.int (2 : Int32))] below meth c s₁ [] 0 0 := Stand.of_body Bd
  have e0 : s₁.heap = h0 := by rw [← hh, Bd.state]; rfl
  have N0 := Fr.nil n0
  obtain ⟨f₀, hf₀⟩ : ∃ f, f = entryFrame m #[(.ref k), (.int (0 : Int32)), (.ref pA), (.ref pB), (.long sa), (.long sb), (.int (0 : Int32)), (.int (2 : Int32))] 10 := ⟨_, rfl⟩
  rw [← hf₀]
  have pre0 : Go p e below s₁ f₀ s₁ (mkF m 0 #[.val (.ref k), .val (.int (0 : Int32)), .val (.ref pA), .val (.ref pB), .val (.long sa), .second, .val (.long sb), .second, .val (.int (0 : Int32)), .val (.int (2 : Int32))] []) := fun t kk => castTop (hf₀.trans (ef_rs_N_B_0 m (k) ((0 : Int32)) (pA) (pB) (sa) (sb) ((0 : Int32)) ((2 : Int32)))) kk
  obtain ⟨Ek, gk, EpA, FpA, EmA, FmA, EpB, FpB, EmB, FmB⟩ := hFB
  obtain ⟨KN1, KN2, KN3⟩ := hKS
  obtain ⟨cq1, kq1, q1a, q1b, q1c⟩ := isOf hZ e0 (Ek)
  obtain ⟨_, _, ⟨T1, L1, k1, n1⟩, -, X1, ⟨Lc1, hQ1, l1, y1, z1⟩, st1⟩ := X0.virtualBack hx (y := my_3) (z := my_3) hown (mvT hZ (wq hw 139 rfl)) (mvT hZ (wq hw 140 rfl)) (notFace_of_selects (args := #[]) (mvT hZ (wq hw 142 rfl))) (mvT hZ (wq hw 142 rfl)) (mvT hZ (wq hw 141 rfl)) (by decide) (backOf (W := 0) (rc15_name l Z a0 hw [] cs aE hS k pA pB sb mA mB sa h0 n0 O0 gk Ek KN3 KN1 KN2 EpA FpA EpB EmA FmA EmB hq) hZ (wq hw 143 rfl) (wq hw 33 rfl) (by decide) (by decide)) q1a q1c (g := (mkF m 6 #[.val (.ref k), .val (.int (0 : Int32)), .val (.ref pA), .val (.ref pB), .val (.long sa), .second, .val (.long sb), .second, .val (.int (0 : Int32)), .val (.int (2 : Int32))] [(.ref pA), (.ref k)])) rfl (by rw [hml]; rfl) (Steps.refl _) (argsL := [(.ref pA)]) (rest := []) (lenOf pd_2 rfl) rfl (by show 2 * 0 + _ ≤ _; exact Nat.le_of_eq rfl) (hb hby d_method_3_6) (fun _ _ => ⟨rfl, e0, (by decide : 0 + 2 ≤ _), (by decide : 0 + 4 ≤ _)⟩)
  dsimp only [Pt.U, Pt.locs, Pt.cells, Pt.slots] at X1 l1 y1 z1 st1 hQ1
  have X1 := own_to X1 l1 y1 z1
  obtain ⟨x1_b6, x1_x24_b4, x1_x24_k4, rfl, N1q, K1, sz1_b6, sz1_x24_b4, q1_0, q1_1, q1_2, q1_3, q1_4, q1_5, q1_6, q1_7, q1_8, q1_9⟩ := hQ1
  have N1 := Fr.app N0 N1q
  have g2 : n0 ≤ x1_b6 := Nat.le_trans (Nat.le_of_eq O0.1.symm) (Nat.le_trans O0.2.1 sz1_b6)
  have s3 : h0.size ≤ x1_b6 := Nat.le_trans (Keep.refl h0 [k]).1 sz1_b6
  have ne4 : k ≠ x1_b6 := Nat.ne_of_lt (Nat.lt_of_lt_of_le Ek.lt sz1_b6)
  have ne5 : pA ≠ x1_b6 := Nat.ne_of_lt (Nat.lt_of_lt_of_le EpA.lt sz1_b6)
  have ne6 : mA ≠ x1_b6 := Nat.ne_of_lt (Nat.lt_of_lt_of_le EmA.lt sz1_b6)
  have ne7 : pB ≠ x1_b6 := Nat.ne_of_lt (Nat.lt_of_lt_of_le EpB.lt sz1_b6)
  have ne8 : mB ≠ x1_b6 := Nat.ne_of_lt (Nat.lt_of_lt_of_le EmB.lt sz1_b6)
  have g9 : n0 ≤ x1_x24_b4 := Nat.le_trans (Nat.le_of_eq O0.1.symm) (Nat.le_trans O0.2.1 sz1_x24_b4)
  have s10 : h0.size ≤ x1_x24_b4 := Nat.le_trans (Keep.refl h0 [k]).1 sz1_x24_b4
  have ne11 : k ≠ x1_x24_b4 := Nat.ne_of_lt (Nat.lt_of_lt_of_le Ek.lt sz1_x24_b4)
  have ne12 : pA ≠ x1_x24_b4 := Nat.ne_of_lt (Nat.lt_of_lt_of_le EpA.lt sz1_x24_b4)
  have ne13 : mA ≠ x1_x24_b4 := Nat.ne_of_lt (Nat.lt_of_lt_of_le EmA.lt sz1_x24_b4)
  have ne14 : pB ≠ x1_x24_b4 := Nat.ne_of_lt (Nat.lt_of_lt_of_le EpB.lt sz1_x24_b4)
  have ne15 : mB ≠ x1_x24_b4 := Nat.ne_of_lt (Nat.lt_of_lt_of_le EmB.lt sz1_x24_b4)
  have O16 : Old Z n0 T1.heap := Old.keep O0 K1 (allS gk all0)
  have K17 : Keep h0 T1.heap [k] := (Keep.refl h0 [k]).trans K1 (allS (Or.inl (List.mem_of_getElem? (i := 0) rfl)) all0)
  have t18 : Exa Z T1.heap pA nPredec_4 := (EpA.keep K1)
  have ne19 : pA ≠ k := Exa.ne EpA Ek (by decide)
  have t20 : Fld Z T1.heap pA nPredec_4 "id" nMessag_5 (.ref mA) := (FpA.keep K1 (ninS ne19 nin0))
  have t21 : Exa Z T1.heap mA nMessag_6 := (EmA.keep K1)
  have ne22 : mA ≠ k := Exa.ne EmA Ek (by decide)
  have t23 : Fld Z T1.heap mA nMessag_6 "seq" "J" (.long sa) := (FmA.keep K1 (ninS ne22 nin0))
  have t24 : Exa Z T1.heap pB nPredec_4 := (EpB.keep K1)
  have ne25 : pB ≠ k := Exa.ne EpB Ek (by decide)
  have t26 : Fld Z T1.heap pB nPredec_4 "id" nMessag_5 (.ref mB) := (FpB.keep K1 (ninS ne25 nin0))
  have t27 : Exa Z T1.heap mB nMessag_6 := (EmB.keep K1)
  have ne28 : mB ≠ k := Exa.ne EmB Ek (by decide)
  have t29 : Fld Z T1.heap mB nMessag_6 "seq" "J" (.long sb) := (FmB.keep K1 (ninS ne28 nin0))
  obtain ⟨fs, hr, hrun, hended, hW, hsame⟩ := X1.leave (v := (some (.int (3 : Int32)))) (fun h => by rw [Bd.returns] at h; cases h)
  refine ⟨_, _, pre0 _ ?_, hrun, hended, _, _, rfl, ?_, ⟨_, rfl⟩, hW, hsame.mono (by decide) (by decide)⟩
  · refine XS.iloadN X0.here hx rfl (hb hby d_method_3_0) rfl ?_
    refine XS.ifNo X0.here hx rfl (hb hby d_method_3_1) rfl ((if0 _ _).trans (teq (by decide : (0 : Int32) = (0 : Int32))).2) ?_
    refine XS.aloadN X0.here hx rfl (hb hby d_method_3_4) rfl rfl ?_
    refine XS.aloadN X0.here hx rfl (hb hby d_method_3_5) rfl rfl ?_
    refine st1.trans ?_
    refine XS.pop X1.here hx rfl (hb hby d_method_3_9) rfl rfl ?_
    refine XS.iload X1.here hx rfl (hb hby d_method_3_10) rfl ?_
    refine XS.iload X1.here hx rfl (hb hby d_method_3_12) rfl ?_
    refine XS.ifYes X1.here hx rfl (pc0 := 14) (pc' := 21) rfl (hb hby d_method_3_14) rfl ((if0 _ _).trans (teq (by decide : (0 : Int32) = (0 : Int32))).1) (by decide) (by decide) ?_
    refine XS.iconst X1.here hx rfl (hb hby d_method_3_21) ?_
    refine XS.ior X1.here hx rfl (hb hby d_method_3_22) rfl ?_
    show Steps p.tables e below (T1.setTop (mkF m 23 #[.val (.ref k), .val (.int (0 : Int32)), .val (.ref pA), .val (.ref pB), .val (.long sa), .second, .val (.long sb), .second, .val (.int (0 : Int32)), .val (.int (2 : Int32))] [(.int (3 : Int32))])) _
    exact retI X1 hx Bd.returns (hb hby d_method_3_23) hr
  · show QSN Z k pA mA sa pB mB sb h0 n0 _ T1.heap _
    exact ⟨_, rfl, N1, K17.1, O16, ⟨q1_0, gk, t18, t20, t21, t23, t24, t26, t27, t29⟩, Or.inr (Or.inr (Or.inr (Or.inr (⟨rfl, ⟨x1_b6, x1_x24_b4, x1_x24_k4, _, q1_2, q1_3, q1_1, q1_4, q1_7, q1_5, q1_6, q1_8, q1_9, g2, g9⟩⟩))))⟩
set_option maxRecDepth 65536 in
set_option maxHeartbeats 40000000 in
theorem rs_N_B_1 (l : Launch) (Z : State) (a0 : Array Value) (hw : ∀ d ∈ tables_1, d.before a0 Z = true) (ws : List Jvm.Cond) (cs : Int32) (aE : Addr) (hS : SB Z cs aE) (k pA mA : Addr) (sa : Int64) (pB mB : Addr) (sb : Int64) (h0 : Heap) (n0 : Nat) (O0 : Old Z n0 h0) (hq : ¬ sa = sb) (hFB : FB Z n0 h0 k pA mA sa pB mB sb) (hKS : KS1 Z h0 k pB sb) :
    Met l my_4 method_3_code 10 (some .int) ws ({ frames := 5, cells := 2, slots := 4, locals := 67 } : Room) #[(.ref k), (.int (1 : Int32)), (.ref pA), (.ref pB), (.long sa), (.long sb), (.int (0 : Int32)), (.int (2 : Int32))] Z h0 (QSN Z k pA mA sa pB mB sb h0 n0) := by
  refine MetFree.of_bodySF (plainFor_of_name pn_3) hisR ?_
  intro p e s m args below meth c s₁ Bd hml0 hP hK
  obtain ⟨rfl, hZ, hh⟩ := hP
  have hx := Bd.exec
  have hby := Bd.bytes
  have hml : c.maxLocals = 10 := hml0
  have hown : s.vm.findClass nKnownO_13 = some m.cls := findClass_of_methodNamed Bd.named
  have hnm := (name_of_methodNamed Bd.named Bd.method).1
  have X0 : Stand p l e ({ frames := 5, cells := 2, slots := 4, locals := 67 } : Room) s m #[(.ref k), (.int (1 : Int32)), (.ref pA), (.ref pB), (.long sa), (.long sb), (.int (0 : Int32)), (.int (2 : Int32))] below meth c s₁ [] 0 0 := Stand.of_body Bd
  have e0 : s₁.heap = h0 := by rw [← hh, Bd.state]; rfl
  have N0 := Fr.nil n0
  obtain ⟨f₀, hf₀⟩ : ∃ f, f = entryFrame m #[(.ref k), (.int (1 : Int32)), (.ref pA), (.ref pB), (.long sa), (.long sb), (.int (0 : Int32)), (.int (2 : Int32))] 10 := ⟨_, rfl⟩
  rw [← hf₀]
  have pre0 : Go p e below s₁ f₀ s₁ (mkF m 0 #[.val (.ref k), .val (.int (1 : Int32)), .val (.ref pA), .val (.ref pB), .val (.long sa), .second, .val (.long sb), .second, .val (.int (0 : Int32)), .val (.int (2 : Int32))] []) := fun t kk => castTop (hf₀.trans (ef_rs_N_B_1 m (k) ((1 : Int32)) (pA) (pB) (sa) (sb) ((0 : Int32)) ((2 : Int32)))) kk
  obtain ⟨Ek, gk, EpA, FpA, EmA, FmA, EpB, FpB, EmB, FmB⟩ := hFB
  obtain ⟨KN1, KN2, KN3⟩ := hKS
  obtain ⟨cq1, kq1, q1a, q1b, q1c⟩ := isOf hZ e0 (Ek)
  obtain ⟨_, _, ⟨T1, L1, k1, n1⟩, -, X1, ⟨Lc1, hQ1, l1, y1, z1⟩, st1⟩ := X0.virtualBack hx (y := my_3) (z := my_3) hown (mvT hZ (wq hw 139 rfl)) (mvT hZ (wq hw 140 rfl)) (notFace_of_selects (args := #[]) (mvT hZ (wq hw 142 rfl))) (mvT hZ (wq hw 142 rfl)) (mvT hZ (wq hw 141 rfl)) (by decide) (backOf (W := 0) (rc5_name l Z a0 hw [] cs aE hS k pB sb mB h0 n0 O0 gk Ek KN3 KN1 KN2 EpB FpB EmB FmB) hZ (wq hw 143 rfl) (wq hw 33 rfl) (by decide) (by decide)) q1a q1c (g := (mkF m 31 #[.val (.ref k), .val (.int (1 : Int32)), .val (.ref pA), .val (.ref pB), .val (.long sa), .second, .val (.long sb), .second, .val (.int (0 : Int32)), .val (.int (2 : Int32))] [(.ref pB), (.ref k)])) rfl (by rw [hml]; rfl) (Steps.refl _) (argsL := [(.ref pB)]) (rest := []) (lenOf pd_2 rfl) rfl (by show 2 * 0 + _ ≤ _; exact Nat.le_of_eq rfl) (hb hby d_method_3_31) (fun _ _ => ⟨rfl, e0, (by decide : 0 + 0 ≤ _), (by decide : 0 + 0 ≤ _)⟩)
  dsimp only [Pt.U, Pt.locs, Pt.cells, Pt.slots] at X1 l1 y1 z1 st1 hQ1
  have X1 := own_to X1 l1 y1 z1
  obtain ⟨rfl, N1q, K1, q1_0, q1_1, q1_2, q1_3⟩ := hQ1
  have N1 := Fr.app N0 N1q
  have O2 : Old Z n0 T1.heap := Old.keep O0 K1 (allS gk all0)
  have K3 : Keep h0 T1.heap [k] := (Keep.refl h0 [k]).trans K1 (allS (Or.inl (List.mem_of_getElem? (i := 0) rfl)) all0)
  have t4 : Exa Z T1.heap pA nPredec_4 := (EpA.keep K1)
  have ne5 : pA ≠ k := Exa.ne EpA Ek (by decide)
  have t6 : Fld Z T1.heap pA nPredec_4 "id" nMessag_5 (.ref mA) := (FpA.keep K1 (ninS ne5 nin0))
  have t7 : Exa Z T1.heap mA nMessag_6 := (EmA.keep K1)
  have ne8 : mA ≠ k := Exa.ne EmA Ek (by decide)
  have t9 : Fld Z T1.heap mA nMessag_6 "seq" "J" (.long sa) := (FmA.keep K1 (ninS ne8 nin0))
  have t10 : Exa Z T1.heap pB nPredec_4 := (EpB.keep K1)
  have ne11 : pB ≠ k := Exa.ne EpB Ek (by decide)
  have t12 : Fld Z T1.heap pB nPredec_4 "id" nMessag_5 (.ref mB) := (FpB.keep K1 (ninS ne11 nin0))
  have t13 : Exa Z T1.heap mB nMessag_6 := (EmB.keep K1)
  have ne14 : mB ≠ k := Exa.ne EmB Ek (by decide)
  have t15 : Fld Z T1.heap mB nMessag_6 "seq" "J" (.long sb) := (FmB.keep K1 (ninS ne14 nin0))
  obtain ⟨fs, hr, hrun, hended, hW, hsame⟩ := X1.leave (v := (some (.int (2 : Int32)))) (fun h => by rw [Bd.returns] at h; cases h)
  refine ⟨_, _, pre0 _ ?_, hrun, hended, _, _, rfl, ?_, ⟨_, rfl⟩, hW, hsame.mono (by decide) (by decide)⟩
  · refine XS.iloadN X0.here hx rfl (hb hby d_method_3_0) rfl ?_
    refine XS.ifYes X0.here hx rfl (pc0 := 1) (pc' := 24) rfl (hb hby d_method_3_1) rfl ((if0 _ _).trans (feq (by decide : ¬ ((1 : Int32) = (0 : Int32)))).2) (by decide) (by decide) ?_
    refine XS.iloadN X0.here hx rfl (hb hby d_method_3_24) rfl ?_
    refine XS.iconst X0.here hx rfl (hb hby d_method_3_25) ?_
    refine XS.icmpNo X0.here hx rfl (hb hby d_method_3_26) rfl (teq (by decide : (1 : Int32) = (1 : Int32))).2 ?_
    refine XS.aloadN X0.here hx rfl (hb hby d_method_3_29) rfl rfl ?_
    refine XS.aloadN X0.here hx rfl (hb hby d_method_3_30) rfl rfl ?_
    refine st1.trans ?_
    refine XS.pop X1.here hx rfl (hb hby d_method_3_34) rfl rfl ?_
    refine XS.iload X1.here hx rfl (hb hby d_method_3_35) rfl ?_
    refine XS.iload X1.here hx rfl (hb hby d_method_3_37) rfl ?_
    refine XS.ifYes X1.here hx rfl (pc0 := 39) (pc' := 46) rfl (hb hby d_method_3_39) rfl ((if0 _ _).trans (teq (by decide : (0 : Int32) = (0 : Int32))).1) (by decide) (by decide) ?_
    refine XS.iconst X1.here hx rfl (hb hby d_method_3_46) ?_
    refine XS.ior X1.here hx rfl (hb hby d_method_3_47) rfl ?_
    show Steps p.tables e below (T1.setTop (mkF m 48 #[.val (.ref k), .val (.int (1 : Int32)), .val (.ref pA), .val (.ref pB), .val (.long sa), .second, .val (.long sb), .second, .val (.int (0 : Int32)), .val (.int (2 : Int32))] [(.int (2 : Int32))])) _
    exact retI X1 hx Bd.returns (hb hby d_method_3_48) hr
  · show QSN Z k pA mA sa pB mB sb h0 n0 _ T1.heap _
    exact ⟨_, rfl, N1, K3.1, O2, ⟨q1_0, gk, t4, t6, t7, t9, t10, t12, t13, t15⟩, Or.inr (Or.inr (Or.inl ⟨rfl, ⟨q1_2, q1_3, q1_1⟩⟩))⟩
set_option maxRecDepth 65536 in
set_option maxHeartbeats 40000000 in
theorem rs_N_B_2 (l : Launch) (Z : State) (a0 : Array Value) (hw : ∀ d ∈ tables_1, d.before a0 Z = true) (ws : List Jvm.Cond) (cs : Int32) (aE : Addr) (hS : SB Z cs aE) (k pA mA : Addr) (sa : Int64) (pB mB : Addr) (sb : Int64) (h0 : Heap) (n0 : Nat) (O0 : Old Z n0 h0) (hq : ¬ sa = sb) (hFB : FB Z n0 h0 k pA mA sa pB mB sb) (hKS : KS1 Z h0 k pB sb) :
    Met l my_4 method_3_code 10 (some .int) ws ({ frames := 5, cells := 2, slots := 4, locals := 67 } : Room) #[(.ref k), (.int (2 : Int32)), (.ref pA), (.ref pB), (.long sa), (.long sb), (.int (0 : Int32)), (.int (2 : Int32))] Z h0 (QSN Z k pA mA sa pB mB sb h0 n0) := by
  refine MetFree.of_bodySF (plainFor_of_name pn_3) hisR ?_
  intro p e s m args below meth c s₁ Bd hml0 hP hK
  obtain ⟨rfl, hZ, hh⟩ := hP
  have hx := Bd.exec
  have hby := Bd.bytes
  have hml : c.maxLocals = 10 := hml0
  have hown : s.vm.findClass nKnownO_13 = some m.cls := findClass_of_methodNamed Bd.named
  have hnm := (name_of_methodNamed Bd.named Bd.method).1
  have X0 : Stand p l e ({ frames := 5, cells := 2, slots := 4, locals := 67 } : Room) s m #[(.ref k), (.int (2 : Int32)), (.ref pA), (.ref pB), (.long sa), (.long sb), (.int (0 : Int32)), (.int (2 : Int32))] below meth c s₁ [] 0 0 := Stand.of_body Bd
  have e0 : s₁.heap = h0 := by rw [← hh, Bd.state]; rfl
  have N0 := Fr.nil n0
  obtain ⟨f₀, hf₀⟩ : ∃ f, f = entryFrame m #[(.ref k), (.int (2 : Int32)), (.ref pA), (.ref pB), (.long sa), (.long sb), (.int (0 : Int32)), (.int (2 : Int32))] 10 := ⟨_, rfl⟩
  rw [← hf₀]
  have pre0 : Go p e below s₁ f₀ s₁ (mkF m 0 #[.val (.ref k), .val (.int (2 : Int32)), .val (.ref pA), .val (.ref pB), .val (.long sa), .second, .val (.long sb), .second, .val (.int (0 : Int32)), .val (.int (2 : Int32))] []) := fun t kk => castTop (hf₀.trans (ef_rs_N_B_2 m (k) ((2 : Int32)) (pA) (pB) (sa) (sb) ((0 : Int32)) ((2 : Int32)))) kk
  obtain ⟨Ek, gk, EpA, FpA, EmA, FmA, EpB, FpB, EmB, FmB⟩ := hFB
  obtain ⟨KN1, KN2, KN3⟩ := hKS
  obtain ⟨cq1, kq1, q1a, q1b, q1c⟩ := isOf hZ e0 (Ek)
  obtain ⟨_, _, ⟨T1, L1, k1, n1⟩, -, X1, ⟨Lc1, hQ1, l1, y1, z1⟩, st1⟩ := X0.virtualBack hx (y := my_5) (z := my_5) hown (mvT hZ (wq hw 134 rfl)) (mvT hZ (wq hw 135 rfl)) (notFace_of_selects (args := #[]) (mvT hZ (wq hw 137 rfl))) (mvT hZ (wq hw 137 rfl)) (mvT hZ (wq hw 136 rfl)) (by decide) (backOf (W := 0) (rc14_unname l Z a0 hw [] cs aE hS k sa pB sb h0 n0 O0 gk KN3 KN1 KN2 (fun q => hq (Eq.symm q))) hZ (wq hw 138 rfl) (wq hw 33 rfl) (by decide) (by decide)) q1a q1c (g := (mkF m 57 #[.val (.ref k), .val (.int (2 : Int32)), .val (.ref pA), .val (.ref pB), .val (.long sa), .second, .val (.long sb), .second, .val (.int (0 : Int32)), .val (.int (2 : Int32))] [(.long sa), (.ref k)])) rfl (by rw [hml]; rfl) (Steps.refl _) (argsL := [(.long sa)]) (rest := []) (lenOf pd_3 rfl) rfl (by show 2 * 0 + _ ≤ _; exact Nat.le_of_eq rfl) (hb hby d_method_3_57) (fun _ _ => ⟨rfl, e0, (by decide : 0 + 0 ≤ _), (by decide : 0 + 0 ≤ _)⟩)
  dsimp only [Pt.U, Pt.locs, Pt.cells, Pt.slots] at X1 l1 y1 z1 st1 hQ1
  have X1 := own_to X1 l1 y1 z1
  obtain ⟨rfl, N1q, e1⟩ := hQ1
  have N1 := Fr.app N0 N1q
  obtain ⟨fs, hr, hrun, hended, hW, hsame⟩ := X1.leave (v := (some (.int (2 : Int32)))) (fun h => by rw [Bd.returns] at h; cases h)
  refine ⟨_, _, pre0 _ ?_, hrun, hended, _, _, rfl, ?_, ⟨_, rfl⟩, hW, hsame.mono (by decide) (by decide)⟩
  · refine XS.iloadN X0.here hx rfl (hb hby d_method_3_0) rfl ?_
    refine XS.ifYes X0.here hx rfl (pc0 := 1) (pc' := 24) rfl (hb hby d_method_3_1) rfl ((if0 _ _).trans (feq (by decide : ¬ ((2 : Int32) = (0 : Int32)))).2) (by decide) (by decide) ?_
    refine XS.iloadN X0.here hx rfl (hb hby d_method_3_24) rfl ?_
    refine XS.iconst X0.here hx rfl (hb hby d_method_3_25) ?_
    refine XS.icmpYes X0.here hx rfl (pc0 := 26) (pc' := 49) rfl (hb hby d_method_3_26) rfl (feq (by decide : ¬ ((2 : Int32) = (1 : Int32)))).2 (by decide) (by decide) ?_
    refine XS.iloadN X0.here hx rfl (hb hby d_method_3_49) rfl ?_
    refine XS.iconst X0.here hx rfl (hb hby d_method_3_50) ?_
    refine XS.icmpNo X0.here hx rfl (hb hby d_method_3_51) rfl (teq (by decide : (2 : Int32) = (2 : Int32))).2 ?_
    refine XS.aloadN X0.here hx rfl (hb hby d_method_3_54) rfl rfl ?_
    refine XS.lload X0.here hx rfl (hb hby d_method_3_55) rfl ?_
    refine st1.trans ?_
    refine XS.pop X1.here hx rfl (hb hby d_method_3_60) rfl rfl ?_
    refine XS.iload X1.here hx rfl (hb hby d_method_3_61) rfl ?_
    refine XS.iload X1.here hx rfl (hb hby d_method_3_63) rfl ?_
    refine XS.ifYes X1.here hx rfl (pc0 := 65) (pc' := 72) rfl (hb hby d_method_3_65) rfl ((if0 _ _).trans (teq (by decide : (0 : Int32) = (0 : Int32))).1) (by decide) (by decide) ?_
    refine XS.iconst X1.here hx rfl (hb hby d_method_3_72) ?_
    refine XS.iand X1.here hx rfl (hb hby d_method_3_73) rfl ?_
    show Steps p.tables e below (T1.setTop (mkF m 74 #[.val (.ref k), .val (.int (2 : Int32)), .val (.ref pA), .val (.ref pB), .val (.long sa), .second, .val (.long sb), .second, .val (.int (0 : Int32)), .val (.int (2 : Int32))] [(.int (2 : Int32))])) _
    exact retI X1 hx Bd.returns (hb hby d_method_3_74) hr
  · show QSN Z k pA mA sa pB mB sb h0 n0 _ T1.heap _
    rw [e1]
    exact ⟨_, rfl, N1, Nat.le_refl _, O0, ⟨Ek, gk, EpA, FpA, EmA, FmA, EpB, FpB, EmB, FmB⟩, Or.inr (Or.inr (Or.inl ⟨rfl, ⟨KN1, KN2, KN3⟩⟩))⟩
set_option maxRecDepth 65536 in
set_option maxHeartbeats 40000000 in
theorem rs_N_B_3 (l : Launch) (Z : State) (a0 : Array Value) (hw : ∀ d ∈ tables_1, d.before a0 Z = true) (ws : List Jvm.Cond) (cs : Int32) (aE : Addr) (hS : SB Z cs aE) (k pA mA : Addr) (sa : Int64) (pB mB : Addr) (sb : Int64) (h0 : Heap) (n0 : Nat) (O0 : Old Z n0 h0) (hq : ¬ sa = sb) (hFB : FB Z n0 h0 k pA mA sa pB mB sb) (hKS : KS1 Z h0 k pB sb) :
    Met l my_4 method_3_code 10 (some .int) ws ({ frames := 5, cells := 2, slots := 4, locals := 67 } : Room) #[(.ref k), (.int (3 : Int32)), (.ref pA), (.ref pB), (.long sa), (.long sb), (.int (0 : Int32)), (.int (2 : Int32))] Z h0 (QSN Z k pA mA sa pB mB sb h0 n0) := by
  refine MetFree.of_bodySF (plainFor_of_name pn_3) hisR ?_
  intro p e s m args below meth c s₁ Bd hml0 hP hK
  obtain ⟨rfl, hZ, hh⟩ := hP
  have hx := Bd.exec
  have hby := Bd.bytes
  have hml : c.maxLocals = 10 := hml0
  have hown : s.vm.findClass nKnownO_13 = some m.cls := findClass_of_methodNamed Bd.named
  have hnm := (name_of_methodNamed Bd.named Bd.method).1
  have X0 : Stand p l e ({ frames := 5, cells := 2, slots := 4, locals := 67 } : Room) s m #[(.ref k), (.int (3 : Int32)), (.ref pA), (.ref pB), (.long sa), (.long sb), (.int (0 : Int32)), (.int (2 : Int32))] below meth c s₁ [] 0 0 := Stand.of_body Bd
  have e0 : s₁.heap = h0 := by rw [← hh, Bd.state]; rfl
  have N0 := Fr.nil n0
  obtain ⟨f₀, hf₀⟩ : ∃ f, f = entryFrame m #[(.ref k), (.int (3 : Int32)), (.ref pA), (.ref pB), (.long sa), (.long sb), (.int (0 : Int32)), (.int (2 : Int32))] 10 := ⟨_, rfl⟩
  rw [← hf₀]
  have pre0 : Go p e below s₁ f₀ s₁ (mkF m 0 #[.val (.ref k), .val (.int (3 : Int32)), .val (.ref pA), .val (.ref pB), .val (.long sa), .second, .val (.long sb), .second, .val (.int (0 : Int32)), .val (.int (2 : Int32))] []) := fun t kk => castTop (hf₀.trans (ef_rs_N_B_3 m (k) ((3 : Int32)) (pA) (pB) (sa) (sb) ((0 : Int32)) ((2 : Int32)))) kk
  obtain ⟨Ek, gk, EpA, FpA, EmA, FmA, EpB, FpB, EmB, FmB⟩ := hFB
  obtain ⟨KN1, KN2, KN3⟩ := hKS
  obtain ⟨cq1, kq1, q1a, q1b, q1c⟩ := isOf hZ e0 (Ek)
  obtain ⟨_, _, ⟨T1, L1, k1, n1⟩, -, X1, ⟨Lc1, hQ1, l1, y1, z1⟩, st1⟩ := X0.virtualBack hx (y := my_5) (z := my_5) hown (mvT hZ (wq hw 134 rfl)) (mvT hZ (wq hw 135 rfl)) (notFace_of_selects (args := #[]) (mvT hZ (wq hw 137 rfl))) (mvT hZ (wq hw 137 rfl)) (mvT hZ (wq hw 136 rfl)) (by decide) (backOf (W := 0) (rc13_unname l Z a0 hw [] cs aE hS k sb pB h0 n0 O0 gk Ek KN3 KN1 KN2) hZ (wq hw 138 rfl) (wq hw 33 rfl) (by decide) (by decide)) q1a q1c (g := (mkF m 78 #[.val (.ref k), .val (.int (3 : Int32)), .val (.ref pA), .val (.ref pB), .val (.long sa), .second, .val (.long sb), .second, .val (.int (0 : Int32)), .val (.int (2 : Int32))] [(.long sb), (.ref k)])) rfl (by rw [hml]; rfl) (Steps.refl _) (argsL := [(.long sb)]) (rest := []) (lenOf pd_3 rfl) rfl (by show 2 * 0 + _ ≤ _; exact Nat.le_of_eq rfl) (hb hby d_method_3_78) (fun _ _ => ⟨rfl, e0, (by decide : 0 + 0 ≤ _), (by decide : 0 + 0 ≤ _)⟩)
  dsimp only [Pt.U, Pt.locs, Pt.cells, Pt.slots] at X1 l1 y1 z1 st1 hQ1
  have X1 := own_to X1 l1 y1 z1
  obtain ⟨rfl, N1q, K1, q1_0, q1_1, q1_2, q1_3⟩ := hQ1
  have N1 := Fr.app N0 N1q
  have O2 : Old Z n0 T1.heap := Old.keep O0 K1 (allS gk all0)
  have K3 : Keep h0 T1.heap [k] := (Keep.refl h0 [k]).trans K1 (allS (Or.inl (List.mem_of_getElem? (i := 0) rfl)) all0)
  have t4 : Exa Z T1.heap pA nPredec_4 := (EpA.keep K1)
  have ne5 : pA ≠ k := Exa.ne EpA Ek (by decide)
  have t6 : Fld Z T1.heap pA nPredec_4 "id" nMessag_5 (.ref mA) := (FpA.keep K1 (ninS ne5 nin0))
  have t7 : Exa Z T1.heap mA nMessag_6 := (EmA.keep K1)
  have ne8 : mA ≠ k := Exa.ne EmA Ek (by decide)
  have t9 : Fld Z T1.heap mA nMessag_6 "seq" "J" (.long sa) := (FmA.keep K1 (ninS ne8 nin0))
  have t10 : Exa Z T1.heap pB nPredec_4 := (EpB.keep K1)
  have ne11 : pB ≠ k := Exa.ne EpB Ek (by decide)
  have t12 : Fld Z T1.heap pB nPredec_4 "id" nMessag_5 (.ref mB) := (FpB.keep K1 (ninS ne11 nin0))
  have t13 : Exa Z T1.heap mB nMessag_6 := (EmB.keep K1)
  have ne14 : mB ≠ k := Exa.ne EmB Ek (by decide)
  have t15 : Fld Z T1.heap mB nMessag_6 "seq" "J" (.long sb) := (FmB.keep K1 (ninS ne14 nin0))
  obtain ⟨fs, hr, hrun, hended, hW, hsame⟩ := X1.leave (v := (some (.int (0 : Int32)))) (fun h => by rw [Bd.returns] at h; cases h)
  refine ⟨_, _, pre0 _ ?_, hrun, hended, _, _, rfl, ?_, ⟨_, rfl⟩, hW, hsame.mono (by decide) (by decide)⟩
  · refine XS.iloadN X0.here hx rfl (hb hby d_method_3_0) rfl ?_
    refine XS.ifYes X0.here hx rfl (pc0 := 1) (pc' := 24) rfl (hb hby d_method_3_1) rfl ((if0 _ _).trans (feq (by decide : ¬ ((3 : Int32) = (0 : Int32)))).2) (by decide) (by decide) ?_
    refine XS.iloadN X0.here hx rfl (hb hby d_method_3_24) rfl ?_
    refine XS.iconst X0.here hx rfl (hb hby d_method_3_25) ?_
    refine XS.icmpYes X0.here hx rfl (pc0 := 26) (pc' := 49) rfl (hb hby d_method_3_26) rfl (feq (by decide : ¬ ((3 : Int32) = (1 : Int32)))).2 (by decide) (by decide) ?_
    refine XS.iloadN X0.here hx rfl (hb hby d_method_3_49) rfl ?_
    refine XS.iconst X0.here hx rfl (hb hby d_method_3_50) ?_
    refine XS.icmpYes X0.here hx rfl (pc0 := 51) (pc' := 75) rfl (hb hby d_method_3_51) rfl (feq (by decide : ¬ ((3 : Int32) = (2 : Int32)))).2 (by decide) (by decide) ?_
    refine XS.aloadN X0.here hx rfl (hb hby d_method_3_75) rfl rfl ?_
    refine XS.lload X0.here hx rfl (hb hby d_method_3_76) rfl ?_
    refine st1.trans ?_
    refine XS.pop X1.here hx rfl (hb hby d_method_3_81) rfl rfl ?_
    refine XS.iload X1.here hx rfl (hb hby d_method_3_82) rfl ?_
    refine XS.iload X1.here hx rfl (hb hby d_method_3_84) rfl ?_
    refine XS.ifYes X1.here hx rfl (pc0 := 86) (pc' := 93) rfl (hb hby d_method_3_86) rfl ((if0 _ _).trans (teq (by decide : (0 : Int32) = (0 : Int32))).1) (by decide) (by decide) ?_
    refine XS.iconst X1.here hx rfl (hb hby d_method_3_93) ?_
    refine XS.iand X1.here hx rfl (hb hby d_method_3_94) rfl ?_
    show Steps p.tables e below (T1.setTop (mkF m 95 #[.val (.ref k), .val (.int (3 : Int32)), .val (.ref pA), .val (.ref pB), .val (.long sa), .second, .val (.long sb), .second, .val (.int (0 : Int32)), .val (.int (2 : Int32))] [(.int (0 : Int32))])) _
    exact retI X1 hx Bd.returns (hb hby d_method_3_95) hr
  · show QSN Z k pA mA sa pB mB sb h0 n0 _ T1.heap _
    exact ⟨_, rfl, N1, K3.1, O2, ⟨q1_0, gk, t4, t6, t7, t9, t10, t12, t13, t15⟩, Or.inl ⟨rfl, ⟨_, q1_2, q1_3, q1_1⟩⟩⟩
def Q_rc16_name (Z : State) (aE : Addr) (a1 : Addr) (a2 : Addr) (a3 : Addr) (j4 : Int64) (a5 : Addr) (h0 : Heap) (n0 : Nat) (v : Option Value) (h : Heap) (L : List Loc) : Prop := v = some (.ref a2) ∧ Fr n0 L ∧ Keep h0 h [a1] ∧ Exa Z h a1 nKnownO_3 ∧ Fld Z h a1 nKnownO_3 "alsoNamed" nList_8 (.ref a3) ∧ Fld Z h a1 nKnownO_3 "named" nPredec_7 (.ref a2) ∧ Fld Z h a1 nKnownO_3 "namedSeq" "J" (.long j4)
set_option maxRecDepth 65536 in
set_option maxHeartbeats 40000000 in
theorem rc16_name (l : Launch) (Z : State) (a0 : Array Value) (hw : ∀ d ∈ tables_1, d.before a0 Z = true) (ws : List Jvm.Cond) (cs : Int32) (aE : Addr) (hS : SB Z cs aE) (a1 : Addr) (a2 : Addr) (a3 : Addr) (j4 : Int64) (a5 : Addr) (h0 : Heap) (n0 : Nat) (O0 : Old Z n0 h0) (g_a1 : n0 ≤ a1) (g_a3 : n0 ≤ a3) (E_a1 : Exa Z h0 a1 nKnownO_3) (F_a1_alsoNamed : Fld Z h0 a1 nKnownO_3 "alsoNamed" nList_8 (.ref a3)) (F_a1_named : Fld Z h0 a1 nKnownO_3 "named" nPredec_7 (.ref a2)) (F_a1_namedSeq : Fld Z h0 a1 nKnownO_3 "namedSeq" "J" (.long j4)) (E_a2 : Exa Z h0 a2 nPredec_4) (F_a2_id : Fld Z h0 a2 nPredec_4 "id" nMessag_5 (.ref a5)) (E_a5 : Exa Z h0 a5 nMessag_6) (F_a5_seq : Fld Z h0 a5 nMessag_6 "seq" "J" (.long j4)) :
    Met l my_3 prog_22_method_11_code 5 (some (.object nPredec_4)) ws ({ frames := 1, cells := 0, slots := 0, locals := 12 } : Room) #[(.ref a1), (.ref a2)] Z h0 (Q_rc16_name Z aE a1 a2 a3 j4 a5 h0 n0) := by
  refine MetFree.of_bodySF (plainFor_of_name pn_2) hisR ?_
  intro p e s m args below meth c s₁ Bd hml0 hP hK
  obtain ⟨rfl, hZ, hh⟩ := hP
  have hx := Bd.exec
  have hby := Bd.bytes
  have hml : c.maxLocals = 5 := hml0
  have hown : s.vm.findClass nKnownO_3 = some m.cls := findClass_of_methodNamed Bd.named
  have hnm := (name_of_methodNamed Bd.named Bd.method).1
  have X0 : Stand p l e ({ frames := 1, cells := 0, slots := 0, locals := 12 } : Room) s m #[(.ref a1), (.ref a2)] below meth c s₁ [] 0 0 := Stand.of_body Bd
  have e0 : s₁.heap = h0 := by rw [← hh, Bd.state]; rfl
  have N0 := Fr.nil n0
  obtain ⟨f₀, hf₀⟩ : ∃ f, f = entryFrame m #[(.ref a1), (.ref a2)] 5 := ⟨_, rfl⟩
  rw [← hf₀]
  have pre0 : Go p e below s₁ f₀ s₁ (mkF m 0 #[.val (.ref a1), .val (.ref a2), .unset, .unset, .unset] []) := fun t kk => castTop (hf₀.trans (ef_rc16_name m (a1) (a2))) kk
  obtain ⟨cq1, kq1, q1a, q1b, q1c⟩ := isOf hZ e0 (E_a2)
  obtain ⟨_, _, ⟨T1, L1, k1, n1⟩, -, X1, ⟨Lc1, hQ1, l1, y1, z1⟩, st1⟩ := X0.virtualBack hx (y := my_1) (z := my_1) hown (mvT hZ (wq hw 144 rfl)) (mvT hZ (wq hw 145 rfl)) (notFace_of_selects (args := #[]) (mvT hZ (wq hw 147 rfl))) (mvT hZ (wq hw 147 rfl)) (mvT hZ (wq hw 146 rfl)) (by decide) (backOf (W := 0) (rc2_id l Z a0 hw [] cs aE hS a2 a5 h0 n0 O0 F_a2_id) hZ (wq hw 148 rfl) (wq hw 63 rfl) (by decide) (by decide)) q1a q1c (g := (mkF m 1 #[.val (.ref a1), .val (.ref a2), .unset, .unset, .unset] [(.ref a2)])) rfl (by rw [hml]; rfl) (Steps.refl _) (argsL := []) (rest := []) (lenOf pd_0 rfl) rfl (by show 2 * 0 + _ ≤ _; exact Nat.le_of_eq rfl) (hb hby d_prog_22_method_11_1) (fun _ _ => ⟨rfl, e0, (by decide : 0 + 0 ≤ _), (by decide : 0 + 0 ≤ _)⟩)
  dsimp only [Pt.U, Pt.locs, Pt.cells, Pt.slots] at X1 l1 y1 z1 st1 hQ1
  have X1 := own_to X1 l1 y1 z1
  obtain ⟨rfl, N1q, e1⟩ := hQ1
  have N1 := Fr.app N0 N1q
  obtain ⟨cq2, kq2, q2a, q2b, q2c⟩ := isOf hZ e1 (E_a5)
  obtain ⟨_, _, ⟨T2, L2, k2, n2⟩, -, X2, ⟨Lc2, hQ2, l2, y2, z2⟩, st2⟩ := X1.virtualBack hx (y := my_2) (z := my_2) hown (mvT hZ (wq hw 149 rfl)) (mvT hZ (wq hw 150 rfl)) (notFace_of_selects (args := #[]) (mvT hZ (wq hw 152 rfl))) (mvT hZ (wq hw 152 rfl)) (mvT hZ (wq hw 151 rfl)) (by decide) (backOf (W := 0) (rc3_seq l Z a0 hw [] cs aE hS a5 j4 h0 n0 O0 F_a5_seq) hZ (wq hw 153 rfl) (wq hw 66 rfl) (by decide) (by decide)) q2a q2c (g := (mkF m 4 #[.val (.ref a1), .val (.ref a2), .unset, .unset, .unset] [(.ref a5)])) rfl (by rw [hml]; rfl) (Steps.refl _) (argsL := []) (rest := []) (lenOf pd_1 rfl) rfl (by show 2 * 0 + _ ≤ _; exact Nat.le_of_eq rfl) (hb hby d_prog_22_method_11_4) (fun _ _ => ⟨rfl, e1, (by decide : 0 + 0 ≤ _), (by decide : 0 + 0 ≤ _)⟩)
  dsimp only [Pt.U, Pt.locs, Pt.cells, Pt.slots] at X2 l2 y2 z2 st2 hQ2
  have X2 := own_to X2 l2 y2 z2
  obtain ⟨rfl, N2q, e2⟩ := hQ2
  have N2 := Fr.app N1 N2q
  obtain ⟨T3, X3, e3, st3⟩ := getF X2 hx hZ hown (host := "") (Or.inl (wq hw 128 rfl)) Via.refl e2 F_a1_named (g := (mkF m 9 #[.val (.ref a1), .val (.ref a2), .val (.long j4), .second, .unset] [(.ref a1)])) rfl rfl (hb hby d_prog_22_method_11_9)
  obtain ⟨T4, X4, e4, st4⟩ := getF X3 hx hZ hown (host := "") (Or.inl (wq hw 154 rfl)) Via.refl e3 F_a1_namedSeq (g := (mkF m 16 #[.val (.ref a1), .val (.ref a2), .val (.long j4), .second, .unset] [(.ref a1)])) rfl rfl (hb hby d_prog_22_method_11_16)
  obtain ⟨T5, X5, e5, st5⟩ := getF X4 hx hZ hown (host := "") (Or.inl (wq hw 128 rfl)) Via.refl e4 F_a1_named (g := (mkF m 25 #[.val (.ref a1), .val (.ref a2), .val (.long j4), .second, .unset] [(.ref a1)])) rfl rfl (hb hby d_prog_22_method_11_25)
  obtain ⟨T6, h6, X6, e6, W6, st6⟩ := putF X5 hx hZ hown (host := "") (Or.inl (wq hw 128 rfl)) Via.refl e5 F_a1_named E_a1 (Or.inl (wq hw 129 rfl)) (wq hw 32 rfl) (ty := (.object nPredec_4)) (by decide) rfl rfl (g := (mkF m 32 #[.val (.ref a1), .val (.ref a2), .val (.long j4), .second, .val (.ref a2)] [(.ref a2), (.ref a1)])) rfl rfl (hb hby d_prog_22_method_11_32)
  have f7 : Fld Z h6 a1 nKnownO_3 "named" nPredec_7 (.ref a2) := F_a1_named.same W6
  have N6 := Fr.snoc X6 N2 g_a1
  have O8 : Old Z n0 h6 := Old.wr O0 W6 g_a1
  have K9 : Keep h0 h6 [a1] := (Keep.refl h0 [a1]).wr W6 (Or.inl (List.mem_of_getElem? (i := 0) rfl))
  have t10 : Exa Z h6 a1 nKnownO_3 := (E_a1.wr W6)
  have t11 : Fld Z h6 a1 nKnownO_3 "namedSeq" "J" (.long j4) := (F_a1_namedSeq.other W6 (Or.inr (slot_ne (Or.inl (wq hw 155 rfl)) (Or.inl (wq hw 129 rfl)) (by decide) (t := .long) (t' := (.object nPredec_4)) (by decide) (by decide))))
  obtain ⟨T12, h12, X12, e12, W12, st12⟩ := putF X6 hx hZ hown (host := "") (Or.inl (wq hw 154 rfl)) Via.refl e6 t11 t10 (Or.inl (wq hw 155 rfl)) (wq hw 32 rfl) (ty := .long) (by decide) rfl rfl (g := (mkF m 37 #[.val (.ref a1), .val (.ref a2), .val (.long j4), .second, .val (.ref a2)] [(.long j4), (.ref a1)])) rfl rfl (hb hby d_prog_22_method_11_37)
  have f13 : Fld Z h12 a1 nKnownO_3 "namedSeq" "J" (.long j4) := t11.same W12
  have N12 := Fr.snoc X12 N6 g_a1
  have O14 : Old Z n0 h12 := Old.wr O8 W12 g_a1
  have K15 : Keep h0 h12 [a1] := K9.wr W12 (Or.inl (List.mem_of_getElem? (i := 0) rfl))
  have t16 : Exa Z h12 a1 nKnownO_3 := (t10.wr W12)
  have t17 : Fld Z h12 a1 nKnownO_3 "alsoNamed" nList_8 (.ref a3) := ((F_a1_alsoNamed.other W6 (Or.inr (slot_ne (Or.inl (wq hw 157 rfl)) (Or.inl (wq hw 129 rfl)) (by decide) (t := (.object "java/util/List")) (t' := (.object nPredec_4)) (by decide) (by decide)))).other W12 (Or.inr (slot_ne (Or.inl (wq hw 157 rfl)) (Or.inl (wq hw 155 rfl)) (by decide) (t := (.object "java/util/List")) (t' := .long) (by decide) (by decide))))
  have t18 : Fld Z h12 a1 nKnownO_3 "named" nPredec_7 (.ref a2) := (f7.other W12 (Or.inr (slot_ne (Or.inl (wq hw 129 rfl)) (Or.inl (wq hw 155 rfl)) (by decide) (t := (.object nPredec_4)) (t' := .long) (by decide) (by decide))))
  obtain ⟨fs, hr, hrun, hended, hW, hsame⟩ := X12.leave (v := (some (.ref a2))) (fun h => by rw [Bd.returns] at h; cases h)
  refine ⟨_, _, pre0 _ ?_, hrun, hended, _, _, rfl, ?_, ⟨_, rfl⟩, hW, hsame.mono (by decide) (by decide)⟩
  · refine XS.aloadN X0.here hx rfl (hb hby d_prog_22_method_11_0) rfl rfl ?_
    refine st1.trans ?_
    refine st2.trans ?_
    refine XS.lstoreN X2.here hx rfl (hb hby d_prog_22_method_11_7) rfl (l' := #[.val (.ref a1), .val (.ref a2), .val (.long j4), .second, .unset]) rfl ?_
    refine XS.aloadN X2.here hx rfl (hb hby d_prog_22_method_11_8) rfl rfl ?_
    refine st3 _ ?_
    refine XS.ifnullNo X3.here hx rfl (hb hby d_prog_22_method_11_12) rfl ?_
    refine XS.aloadN X3.here hx rfl (hb hby d_prog_22_method_11_15) rfl rfl ?_
    refine st4 _ ?_
    refine XS.lloadN X4.here hx rfl (hb hby d_prog_22_method_11_19) rfl ?_
    refine XS.lcmp X4.here hx rfl (hb hby d_prog_22_method_11_20) rfl ?_
    refine XS.ifNo X4.here hx rfl (hb hby d_prog_22_method_11_21) rfl ((if0 _ _).trans (teq ((lw_eq _ _).mpr rfl)).2) ?_
    refine XS.aloadN X4.here hx rfl (hb hby d_prog_22_method_11_24) rfl rfl ?_
    refine st5 _ ?_
    refine XS.astore X5.here hx rfl (hb hby d_prog_22_method_11_28) rfl rfl (l' := #[.val (.ref a1), .val (.ref a2), .val (.long j4), .second, .val (.ref a2)]) rfl ?_
    refine XS.aloadN X5.here hx rfl (hb hby d_prog_22_method_11_30) rfl rfl ?_
    refine XS.aloadN X5.here hx rfl (hb hby d_prog_22_method_11_31) rfl rfl ?_
    refine st6 _ ?_
    refine XS.aloadN X6.here hx rfl (hb hby d_prog_22_method_11_35) rfl rfl ?_
    refine XS.lloadN X6.here hx rfl (hb hby d_prog_22_method_11_36) rfl ?_
    refine st12 _ ?_
    refine XS.aload X12.here hx rfl (hb hby d_prog_22_method_11_40) rfl rfl ?_
    exact retOut X12 hx Bd.returns rfl (Or.inr (Or.inr (Or.inr (Or.inr ⟨rfl, rfl, rfl⟩)))) (hb hby d_prog_22_method_11_42) hr
  · show Q_rc16_name Z aE a1 a2 a3 j4 a5 h0 n0 _ T12.heap _
    rw [e12]
    exact ⟨rfl, N12, K15, t16, t17, t18, f13⟩
set_option maxRecDepth 65536 in
set_option maxHeartbeats 40000000 in
theorem rs_N_AB_0 (l : Launch) (Z : State) (a0 : Array Value) (hw : ∀ d ∈ tables_1, d.before a0 Z = true) (ws : List Jvm.Cond) (cs : Int32) (aE : Addr) (hS : SB Z cs aE) (k pA mA : Addr) (sa : Int64) (pB mB : Addr) (sb : Int64) (h0 : Heap) (n0 : Nat) (O0 : Old Z n0 h0) (hq : ¬ sa = sb) (hFB : FB Z n0 h0 k pA mA sa pB mB sb) (hKS : KS2 Z n0 h0 k pA sa pB) :
    Met l my_4 method_3_code 10 (some .int) ws ({ frames := 5, cells := 2, slots := 4, locals := 67 } : Room) #[(.ref k), (.int (0 : Int32)), (.ref pA), (.ref pB), (.long sa), (.long sb), (.int (0 : Int32)), (.int (3 : Int32))] Z h0 (QSN Z k pA mA sa pB mB sb h0 n0) := by
  refine MetFree.of_bodySF (plainFor_of_name pn_3) hisR ?_
  intro p e s m args below meth c s₁ Bd hml0 hP hK
  obtain ⟨rfl, hZ, hh⟩ := hP
  have hx := Bd.exec
  have hby := Bd.bytes
  have hml : c.maxLocals = 10 := hml0
  have hown : s.vm.findClass nKnownO_13 = some m.cls := findClass_of_methodNamed Bd.named
  have hnm := (name_of_methodNamed Bd.named Bd.method).1
  have X0 : Stand p l e ({ frames := 5, cells := 2, slots := 4, locals := 67 } : Room) s m #[(.ref k), (.int (0 : Int32)), (.ref pA), (.ref pB), (.long sa), (.long sb), (.int (0 : Int32)), (.int (3 : Int32))] below meth c s₁ [] 0 0 := Stand.of_body Bd
  have e0 : s₁.heap = h0 := by rw [← hh, Bd.state]; rfl
  have N0 := Fr.nil n0
  obtain ⟨f₀, hf₀⟩ : ∃ f, f = entryFrame m #[(.ref k), (.int (0 : Int32)), (.ref pA), (.ref pB), (.long sa), (.long sb), (.int (0 : Int32)), (.int (3 : Int32))] 10 := ⟨_, rfl⟩
  rw [← hf₀]
  have pre0 : Go p e below s₁ f₀ s₁ (mkF m 0 #[.val (.ref k), .val (.int (0 : Int32)), .val (.ref pA), .val (.ref pB), .val (.long sa), .second, .val (.long sb), .second, .val (.int (0 : Int32)), .val (.int (3 : Int32))] []) := fun t kk => castTop (hf₀.trans (ef_rs_N_AB_0 m (k) ((0 : Int32)) (pA) (pB) (sa) (sb) ((0 : Int32)) ((3 : Int32)))) kk
  obtain ⟨Ek, gk, EpA, FpA, EmA, FmA, EpB, FpB, EmB, FmB⟩ := hFB
  obtain ⟨L, E, ce, mc, KN1, KN2, KN3, EL, FL1, FL2, FL3, VE, OE, gL, gE⟩ := hKS
  obtain ⟨cq1, kq1, q1a, q1b, q1c⟩ := isOf hZ e0 (Ek)
  obtain ⟨_, _, ⟨T1, L1, k1, n1⟩, -, X1, ⟨Lc1, hQ1, l1, y1, z1⟩, st1⟩ := X0.virtualBack hx (y := my_3) (z := my_3) hown (mvT hZ (wq hw 139 rfl)) (mvT hZ (wq hw 140 rfl)) (notFace_of_selects (args := #[]) (mvT hZ (wq hw 142 rfl))) (mvT hZ (wq hw 142 rfl)) (mvT hZ (wq hw 141 rfl)) (by decide) (backOf (W := 0) (rc16_name l Z a0 hw [] cs aE hS k pA L sa mA h0 n0 O0 gk gL Ek KN3 KN1 KN2 EpA FpA EmA FmA) hZ (wq hw 143 rfl) (wq hw 33 rfl) (by decide) (by decide)) q1a q1c (g := (mkF m 6 #[.val (.ref k), .val (.int (0 : Int32)), .val (.ref pA), .val (.ref pB), .val (.long sa), .second, .val (.long sb), .second, .val (.int (0 : Int32)), .val (.int (3 : Int32))] [(.ref pA), (.ref k)])) rfl (by rw [hml]; rfl) (Steps.refl _) (argsL := [(.ref pA)]) (rest := []) (lenOf pd_2 rfl) rfl (by show 2 * 0 + _ ≤ _; exact Nat.le_of_eq rfl) (hb hby d_method_3_6) (fun _ _ => ⟨rfl, e0, (by decide : 0 + 0 ≤ _), (by decide : 0 + 0 ≤ _)⟩)
  dsimp only [Pt.U, Pt.locs, Pt.cells, Pt.slots] at X1 l1 y1 z1 st1 hQ1
  have X1 := own_to X1 l1 y1 z1
  obtain ⟨rfl, N1q, K1, q1_0, q1_1, q1_2, q1_3⟩ := hQ1
  have N1 := Fr.app N0 N1q
  have O2 : Old Z n0 T1.heap := Old.keep O0 K1 (allS gk all0)
  have K3 : Keep h0 T1.heap [k, L, E] := (Keep.refl h0 [k, L, E]).trans K1 (allS (Or.inl (List.mem_of_getElem? (i := 0) rfl)) all0)
  have t4 : Exa Z T1.heap pA nPredec_4 := (EpA.keep K1)
  have ne5 : pA ≠ k := Exa.ne EpA Ek (by decide)
  have t6 : Fld Z T1.heap pA nPredec_4 "id" nMessag_5 (.ref mA) := (FpA.keep K1 (ninS ne5 nin0))
  have t7 : Exa Z T1.heap mA nMessag_6 := (EmA.keep K1)
  have ne8 : mA ≠ k := Exa.ne EmA Ek (by decide)
  have t9 : Fld Z T1.heap mA nMessag_6 "seq" "J" (.long sa) := (FmA.keep K1 (ninS ne8 nin0))
  have t10 : Exa Z T1.heap pB nPredec_4 := (EpB.keep K1)
  have ne11 : pB ≠ k := Exa.ne EpB Ek (by decide)
  have t12 : Fld Z T1.heap pB nPredec_4 "id" nMessag_5 (.ref mB) := (FpB.keep K1 (ninS ne11 nin0))
  have t13 : Exa Z T1.heap mB nMessag_6 := (EmB.keep K1)
  have ne14 : mB ≠ k := Exa.ne EmB Ek (by decide)
  have t15 : Fld Z T1.heap mB nMessag_6 "seq" "J" (.long sb) := (FmB.keep K1 (ninS ne14 nin0))
  have t16 : Exa Z T1.heap L nArrayL_9 := (EL.keep K1)
  have ne17 : L ≠ k := Exa.ne EL Ek (by decide)
  have t18 : Fld Z T1.heap L nArrayL_9 "size" "I" (.int (1 : Int32)) := (FL1.keep K1 (ninS ne17 nin0))
  have t19 : Fld Z T1.heap L nArrayL_9 "elementData" nObject_10 (.ref E) := (FL2.keep K1 (ninS ne17 nin0))
  have t20 : Fld Z T1.heap L nAbstra_11 "modCount" "I" (.int mc) := (FL3.keep K1 (ninS ne17 nin0))
  have ne21 : E ≠ k := Ne.symm (Exa.neArv Ek VE (wq hw 32 rfl))
  have t22 : Arv Z T1.heap E ce (.object nObject_12) (1 : Int32) [(.ref pB)] .null := (VE.keep K1 (ninS ne21 nin0))
  obtain ⟨fs, hr, hrun, hended, hW, hsame⟩ := X1.leave (v := (some (.int (3 : Int32)))) (fun h => by rw [Bd.returns] at h; cases h)
  refine ⟨_, _, pre0 _ ?_, hrun, hended, _, _, rfl, ?_, ⟨_, rfl⟩, hW, hsame.mono (by decide) (by decide)⟩
  · refine XS.iloadN X0.here hx rfl (hb hby d_method_3_0) rfl ?_
    refine XS.ifNo X0.here hx rfl (hb hby d_method_3_1) rfl ((if0 _ _).trans (teq (by decide : (0 : Int32) = (0 : Int32))).2) ?_
    refine XS.aloadN X0.here hx rfl (hb hby d_method_3_4) rfl rfl ?_
    refine XS.aloadN X0.here hx rfl (hb hby d_method_3_5) rfl rfl ?_
    refine st1.trans ?_
    refine XS.pop X1.here hx rfl (hb hby d_method_3_9) rfl rfl ?_
    refine XS.iload X1.here hx rfl (hb hby d_method_3_10) rfl ?_
    refine XS.iload X1.here hx rfl (hb hby d_method_3_12) rfl ?_
    refine XS.ifYes X1.here hx rfl (pc0 := 14) (pc' := 21) rfl (hb hby d_method_3_14) rfl ((if0 _ _).trans (teq (by decide : (0 : Int32) = (0 : Int32))).1) (by decide) (by decide) ?_
    refine XS.iconst X1.here hx rfl (hb hby d_method_3_21) ?_
    refine XS.ior X1.here hx rfl (hb hby d_method_3_22) rfl ?_
    show Steps p.tables e below (T1.setTop (mkF m 23 #[.val (.ref k), .val (.int (0 : Int32)), .val (.ref pA), .val (.ref pB), .val (.long sa), .second, .val (.long sb), .second, .val (.int (0 : Int32)), .val (.int (3 : Int32))] [(.int (3 : Int32))])) _
    exact retI X1 hx Bd.returns (hb hby d_method_3_23) hr
  · show QSN Z k pA mA sa pB mB sb h0 n0 _ T1.heap _
    exact ⟨_, rfl, N1, K3.1, O2, ⟨q1_0, gk, t4, t6, t7, t9, t10, t12, t13, t15⟩, Or.inr (Or.inr (Or.inr (Or.inl ⟨rfl, ⟨L, E, ce, _, q1_2, q1_3, q1_1, t16, t18, t19, t20, t22, OE, gL, gE⟩⟩)))⟩
def Q_rc18_size (Z : State) (aE : Addr) (a1 : Addr) (h0 : Heap) (n0 : Nat) (v : Option Value) (h : Heap) (L : List Loc) : Prop := v = some (.int (1 : Int32)) ∧ Fr n0 L ∧ h = h0
set_option maxRecDepth 65536 in
set_option maxHeartbeats 40000000 in
theorem rc18_size (l : Launch) (Z : State) (a0 : Array Value) (hw : ∀ d ∈ tables_1, d.before a0 Z = true) (ws : List Jvm.Cond) (cs : Int32) (aE : Addr) (hS : SB Z cs aE) (a1 : Addr) (h0 : Heap) (n0 : Nat) (O0 : Old Z n0 h0) (g_a1 : n0 ≤ a1) (F_a1_size : Fld Z h0 a1 nArrayL_9 "size" "I" (.int (1 : Int32))) :
    Met l my_9 jdk_38_method_8_code 1 (some .int) ws ({ frames := 0, cells := 0, slots := 0, locals := 0 } : Room) #[(.ref a1)] Z h0 (Q_rc18_size Z aE a1 h0 n0) := by
  refine MetFree.of_bodySF (plainFor_of_name pn_6) hisR ?_
  intro p e s m args below meth c s₁ Bd hml0 hP hK
  obtain ⟨rfl, hZ, hh⟩ := hP
  have hx := Bd.exec
  have hby := Bd.bytes
  have hml : c.maxLocals = 1 := hml0
  have hown : s.vm.findClass nArrayL_9 = some m.cls := findClass_of_methodNamed Bd.named
  have hnm := (name_of_methodNamed Bd.named Bd.method).1
  have X0 : Stand p l e ({ frames := 0, cells := 0, slots := 0, locals := 0 } : Room) s m #[(.ref a1)] below meth c s₁ [] 0 0 := Stand.of_body Bd
  have e0 : s₁.heap = h0 := by rw [← hh, Bd.state]; rfl
  have N0 := Fr.nil n0
  obtain ⟨f₀, hf₀⟩ : ∃ f, f = entryFrame m #[(.ref a1)] 1 := ⟨_, rfl⟩
  rw [← hf₀]
  have pre0 : Go p e below s₁ f₀ s₁ (mkF m 0 #[.val (.ref a1)] []) := fun t kk => castTop (hf₀.trans (ef_rc18_size m (a1))) kk
  obtain ⟨T1, X1, e1, st1⟩ := getF X0 hx hZ hown (host := "") (Or.inl (wq hw 192 rfl)) Via.refl e0 F_a1_size (g := (mkF m 1 #[.val (.ref a1)] [(.ref a1)])) rfl rfl (hb hby d_jdk_38_method_8_1)
  obtain ⟨fs, hr, hrun, hended, hW, hsame⟩ := X1.leave (v := (some (.int (1 : Int32)))) (fun h => by rw [Bd.returns] at h; cases h)
  refine ⟨_, _, pre0 _ ?_, hrun, hended, _, _, rfl, ?_, ⟨_, rfl⟩, hW, hsame.mono (by decide) (by decide)⟩
  · refine XS.aloadN X0.here hx rfl (hb hby d_jdk_38_method_8_0) rfl rfl ?_
    refine st1 _ ?_
    exact retI X1 hx Bd.returns (hb hby d_jdk_38_method_8_4) hr
  · show Q_rc18_size Z aE a1 h0 n0 _ T1.heap _
    rw [e1]
    exact ⟨rfl, N0, rfl⟩
def Q_rc21_checkIndex (Z : State) (aE : Addr)  (h0 : Heap) (n0 : Nat) (v : Option Value) (h : Heap) (L : List Loc) : Prop := v = some (.int (0 : Int32)) ∧ Fr n0 L ∧ h = h0
set_option maxRecDepth 65536 in
set_option maxHeartbeats 40000000 in
theorem rc21_checkIndex (l : Launch) (Z : State) (a0 : Array Value) (hw : ∀ d ∈ tables_1, d.before a0 Z = true) (ws : List Jvm.Cond) (cs : Int32) (aE : Addr) (hS : SB Z cs aE)  (h0 : Heap) (n0 : Nat) (O0 : Old Z n0 h0)  :
    Met l my_14 jdk_41_method_11_code 3 (some .int) ws ({ frames := 0, cells := 0, slots := 0, locals := 0 } : Room) #[(.int (0 : Int32)), (.int (1 : Int32)), .null] Z h0 (Q_rc21_checkIndex Z aE h0 n0) := by
  refine MetFree.of_bodySF (plainFor_of_name pn_7) hisR ?_
  intro p e s m args below meth c s₁ Bd hml0 hP hK
  obtain ⟨rfl, hZ, hh⟩ := hP
  have hx := Bd.exec
  have hby := Bd.bytes
  have hml : c.maxLocals = 3 := hml0
  have hown : s.vm.findClass "jdk/internal/util/Preconditions" = some m.cls := findClass_of_methodNamed Bd.named
  have hnm := (name_of_methodNamed Bd.named Bd.method).1
  have X0 : Stand p l e ({ frames := 0, cells := 0, slots := 0, locals := 0 } : Room) s m #[(.int (0 : Int32)), (.int (1 : Int32)), .null] below meth c s₁ [] 0 0 := Stand.of_body Bd
  have e0 : s₁.heap = h0 := by rw [← hh, Bd.state]; rfl
  have N0 := Fr.nil n0
  obtain ⟨f₀, hf₀⟩ : ∃ f, f = entryFrame m #[(.int (0 : Int32)), (.int (1 : Int32)), .null] 3 := ⟨_, rfl⟩
  rw [← hf₀]
  have pre0 : Go p e below s₁ f₀ s₁ (mkF m 0 #[.val (.int (0 : Int32)), .val (.int (1 : Int32)), .val .null] []) := fun t kk => castTop (hf₀.trans (ef_rc21_checkIndex m ((0 : Int32)) ((1 : Int32)))) kk
  obtain ⟨fs, hr, hrun, hended, hW, hsame⟩ := X0.leave (v := (some (.int (0 : Int32)))) (fun h => by rw [Bd.returns] at h; cases h)
  refine ⟨_, _, pre0 _ ?_, hrun, hended, _, _, rfl, ?_, ⟨_, rfl⟩, hW, hsame.mono (by decide) (by decide)⟩
  · refine XS.iloadN X0.here hx rfl (hb hby d_jdk_41_method_11_0) rfl ?_
    refine XS.ifNo X0.here hx rfl (hb hby d_jdk_41_method_11_1) rfl ((if0 _ _).trans (flt (by decide : ¬ ((0 : Int32) < (0 : Int32)))).1) ?_
    refine XS.iloadN X0.here hx rfl (hb hby d_jdk_41_method_11_4) rfl ?_
    refine XS.iloadN X0.here hx rfl (hb hby d_jdk_41_method_11_5) rfl ?_
    refine XS.icmpYes X0.here hx rfl (pc0 := 6) (pc' := 16) rfl (hb hby d_jdk_41_method_11_6) rfl (tlt (by decide : (0 : Int32) < (1 : Int32))).1 (by decide) (by decide) ?_
    refine XS.iloadN X0.here hx rfl (hb hby d_jdk_41_method_11_16) rfl ?_
    exact retI X0 hx Bd.returns (hb hby d_jdk_41_method_11_17) hr
  · show Q_rc21_checkIndex Z aE h0 n0 _ s₁.heap _
    rw [e0]
    exact ⟨rfl, N0, rfl⟩
def Q_rc20_checkIndex (Z : State) (aE : Addr)  (h0 : Heap) (n0 : Nat) (v : Option Value) (h : Heap) (L : List Loc) : Prop := v = some (.int (0 : Int32)) ∧ Fr n0 L ∧ h = h0
set_option maxRecDepth 65536 in
set_option maxHeartbeats 40000000 in
theorem rc20_checkIndex (l : Launch) (Z : State) (a0 : Array Value) (hw : ∀ d ∈ tables_1, d.before a0 Z = true) (ws : List Jvm.Cond) (cs : Int32) (aE : Addr) (hS : SB Z cs aE)  (h0 : Heap) (n0 : Nat) (O0 : Old Z n0 h0)  :
    Met l my_15 jdk_31_method_17_code 2 (some .int) ws ({ frames := 1, cells := 0, slots := 0, locals := 14 } : Room) #[(.int (0 : Int32)), (.int (1 : Int32))] Z h0 (Q_rc20_checkIndex Z aE h0 n0) := by
  refine MetFree.of_bodySF (plainFor_of_name pn_8) hisR ?_
  intro p e s m args below meth c s₁ Bd hml0 hP hK
  obtain ⟨rfl, hZ, hh⟩ := hP
  have hx := Bd.exec
  have hby := Bd.bytes
  have hml : c.maxLocals = 2 := hml0
  have hown : s.vm.findClass "java/util/Objects" = some m.cls := findClass_of_methodNamed Bd.named
  have hnm := (name_of_methodNamed Bd.named Bd.method).1
  have X0 : Stand p l e ({ frames := 1, cells := 0, slots := 0, locals := 14 } : Room) s m #[(.int (0 : Int32)), (.int (1 : Int32))] below meth c s₁ [] 0 0 := Stand.of_body Bd
  have e0 : s₁.heap = h0 := by rw [← hh, Bd.state]; rfl
  have N0 := Fr.nil n0
  obtain ⟨f₀, hf₀⟩ : ∃ f, f = entryFrame m #[(.int (0 : Int32)), (.int (1 : Int32))] 2 := ⟨_, rfl⟩
  rw [← hf₀]
  have pre0 : Go p e below s₁ f₀ s₁ (mkF m 0 #[.val (.int (0 : Int32)), .val (.int (1 : Int32))] []) := fun t kk => castTop (hf₀.trans (ef_rc20_checkIndex m ((0 : Int32)) ((1 : Int32)))) kk
  obtain ⟨_, _, ⟨T1, L1, k1, n1⟩, -, X1, ⟨Lc1, hQ1, l1, y1, z1⟩, st1⟩ := Jvm.LawKit.callS X0 hx (y := my_14) hown (mvT hZ (wq hw 221 rfl)) (mvT hZ (wq hw 222 rfl)) (mvT hZ (wq hw 223 rfl)) (mvT hZ (wq hw 224 rfl)) (by decide) (backOf (W := 0) (rc21_checkIndex l Z a0 hw [] cs aE hS  h0 n0 O0 ) hZ (wq hw 224 rfl) (wq hw 223 rfl) (by decide) (by decide)) (g := (mkF m 3 #[.val (.int (0 : Int32)), .val (.int (1 : Int32))] [.null, (.int (1 : Int32)), (.int (0 : Int32))])) rfl (by rw [hml]; rfl) (argsL := [(.int (0 : Int32)), (.int (1 : Int32)), .null]) (rest := []) (lenOf pd_9 rfl) rfl (by show 2 * 0 + _ ≤ _; exact Nat.le_of_eq rfl) (hb hby d_jdk_31_method_17_3) (fun _ _ => ⟨rfl, e0, (by decide : 0 + 0 ≤ _), (by decide : 0 + 0 ≤ _)⟩)
  dsimp only [Pt.U, Pt.locs, Pt.cells, Pt.slots] at X1 l1 y1 z1 st1 hQ1
  have X1 := own_to X1 l1 y1 z1
  obtain ⟨rfl, N1q, e1⟩ := hQ1
  have N1 := Fr.app N0 N1q
  obtain ⟨fs, hr, hrun, hended, hW, hsame⟩ := X1.leave (v := (some (.int (0 : Int32)))) (fun h => by rw [Bd.returns] at h; cases h)
  refine ⟨_, _, pre0 _ ?_, hrun, hended, _, _, rfl, ?_, ⟨_, rfl⟩, hW, hsame.mono (by decide) (by decide)⟩
  · refine XS.iloadN X0.here hx rfl (hb hby d_jdk_31_method_17_0) rfl ?_
    refine XS.iloadN X0.here hx rfl (hb hby d_jdk_31_method_17_1) rfl ?_
    refine XS.aconstNull X0.here hx rfl (hb hby d_jdk_31_method_17_2) ?_
    refine st1 _ ?_
    exact retI X1 hx Bd.returns (hb hby d_jdk_31_method_17_6) hr
  · show Q_rc20_checkIndex Z aE h0 n0 _ T1.heap _
    rw [e1]
    exact ⟨rfl, N1, rfl⟩
def Q_rc22_elementData (Z : State) (aE : Addr) (a1 : Addr) (a2 : Addr) (cid4 : ClassId) (a5 : Addr) (h0 : Heap) (n0 : Nat) (v : Option Value) (h : Heap) (L : List Loc) : Prop := v = some (.ref a5) ∧ Fr n0 L ∧ h = h0
set_option maxRecDepth 65536 in
set_option maxHeartbeats 40000000 in
theorem rc22_elementData (l : Launch) (Z : State) (a0 : Array Value) (hw : ∀ d ∈ tables_1, d.before a0 Z = true) (ws : List Jvm.Cond) (cs : Int32) (aE : Addr) (hS : SB Z cs aE) (a1 : Addr) (a2 : Addr) (cid4 : ClassId) (a5 : Addr) (h0 : Heap) (n0 : Nat) (O0 : Old Z n0 h0) (g_a1 : n0 ≤ a1) (g_a2 : n0 ≤ a2) (F_a1_elementData : Fld Z h0 a1 nArrayL_9 "elementData" nObject_10 (.ref a2)) (V_a2 : Arv Z h0 a2 cid4 (.object nObject_12) (1 : Int32) [(.ref a5)] .null) (Ov_a2 : Ovr Z cid4 nObject_12) :
    Met l my_16 jdk_38_method_18_code 2 (some (.object nObject_12)) ws ({ frames := 0, cells := 0, slots := 0, locals := 0 } : Room) #[(.ref a1), (.int (0 : Int32))] Z h0 (Q_rc22_elementData Z aE a1 a2 cid4 a5 h0 n0) := by
  refine MetFree.of_bodySF (plainFor_of_name pn_6) hisR ?_
  intro p e s m args below meth c s₁ Bd hml0 hP hK
  obtain ⟨rfl, hZ, hh⟩ := hP
  have hx := Bd.exec
  have hby := Bd.bytes
  have hml : c.maxLocals = 2 := hml0
  have hown : s.vm.findClass nArrayL_9 = some m.cls := findClass_of_methodNamed Bd.named
  have hnm := (name_of_methodNamed Bd.named Bd.method).1
  have X0 : Stand p l e ({ frames := 0, cells := 0, slots := 0, locals := 0 } : Room) s m #[(.ref a1), (.int (0 : Int32))] below meth c s₁ [] 0 0 := Stand.of_body Bd
  have e0 : s₁.heap = h0 := by rw [← hh, Bd.state]; rfl
  have N0 := Fr.nil n0
  obtain ⟨f₀, hf₀⟩ : ∃ f, f = entryFrame m #[(.ref a1), (.int (0 : Int32))] 2 := ⟨_, rfl⟩
  rw [← hf₀]
  have pre0 : Go p e below s₁ f₀ s₁ (mkF m 0 #[.val (.ref a1), .val (.int (0 : Int32))] []) := fun t kk => castTop (hf₀.trans (ef_rc22_elementData m (a1) ((0 : Int32)))) kk
  obtain ⟨T1, X1, e1, st1⟩ := getF X0 hx hZ hown (host := "") (Or.inl (wq hw 181 rfl)) Via.refl e0 F_a1_elementData (g := (mkF m 1 #[.val (.ref a1), .val (.int (0 : Int32))] [(.ref a1)])) rfl rfl (hb hby d_jdk_38_method_18_1)
  obtain ⟨c2, Ar2, q2, S2, M2, Hh2, G2⟩ := (id V_a2)
  have hin2 : ¬ ((0 : Int32) < 0 ∨ c2.slots.size ≤ ((0 : Int32)).toNatClampNeg) := inb_of S2 ⟨by decide, by decide⟩
  have hat2 : c2.slots[((0 : Int32)).toNatClampNeg]? = some (.ref a5) := Hh2.at hin2 rfl
  obtain ⟨fs, hr, hrun, hended, hW, hsame⟩ := X1.leave (v := (some (.ref a5))) (fun h => by rw [Bd.returns] at h; cases h)
  refine ⟨_, _, pre0 _ ?_, hrun, hended, _, _, rfl, ?_, ⟨_, rfl⟩, hW, hsame.mono (by decide) (by decide)⟩
  · refine XS.aloadN X0.here hx rfl (hb hby d_jdk_38_method_18_0) rfl rfl ?_
    refine st1 _ ?_
    refine XS.iloadN X1.here hx rfl (hb hby d_jdk_38_method_18_4) rfl ?_
    refine X1.aaload hx (j := (0 : Int32)) (v := (.ref a5)) (by rw [e1]; exact Ar2.1) (State.isArrayOf_alike hZ.alike Ar2.2.1) rfl Ar2.2.2 hin2 hat2 (g := (mkF m 5 #[.val (.ref a1), .val (.int (0 : Int32))] [(.int (0 : Int32)), (.ref a2)])) rfl rfl (hb hby d_jdk_38_method_18_5) _ ?_
    exact retOut X1 hx Bd.returns rfl (Or.inr (Or.inr (Or.inr (Or.inr ⟨rfl, rfl, rfl⟩)))) (hb hby d_jdk_38_method_18_6) hr
  · show Q_rc22_elementData Z aE a1 a2 cid4 a5 h0 n0 _ T1.heap _
    rw [e1]
    exact ⟨rfl, N0, rfl⟩
def Q_rc19_get (Z : State) (aE : Addr) (a1 : Addr) (a2 : Addr) (cid4 : ClassId) (a5 : Addr) (h0 : Heap) (n0 : Nat) (v : Option Value) (h : Heap) (L : List Loc) : Prop := v = some (.ref a5) ∧ Fr n0 L ∧ h = h0
set_option maxRecDepth 65536 in
set_option maxHeartbeats 40000000 in
theorem rc19_get (l : Launch) (Z : State) (a0 : Array Value) (hw : ∀ d ∈ tables_1, d.before a0 Z = true) (ws : List Jvm.Cond) (cs : Int32) (aE : Addr) (hS : SB Z cs aE) (a1 : Addr) (a2 : Addr) (cid4 : ClassId) (a5 : Addr) (h0 : Heap) (n0 : Nat) (O0 : Old Z n0 h0) (g_a1 : n0 ≤ a1) (g_a2 : n0 ≤ a2) (E_a1 : Exa Z h0 a1 nArrayL_9) (F_a1_elementData : Fld Z h0 a1 nArrayL_9 "elementData" nObject_10 (.ref a2)) (F_a1_size : Fld Z h0 a1 nArrayL_9 "size" "I" (.int (1 : Int32))) (V_a2 : Arv Z h0 a2 cid4 (.object nObject_12) (1 : Int32) [(.ref a5)] .null) (Ov_a2 : Ovr Z cid4 nObject_12) :
    Met l my_17 jdk_38_method_20_code 2 (some (.object nObject_12)) ws ({ frames := 2, cells := 0, slots := 0, locals := 27 } : Room) #[(.ref a1), (.int (0 : Int32))] Z h0 (Q_rc19_get Z aE a1 a2 cid4 a5 h0 n0) := by
  refine MetFree.of_bodySF (plainFor_of_name pn_6) hisR ?_
  intro p e s m args below meth c s₁ Bd hml0 hP hK
  obtain ⟨rfl, hZ, hh⟩ := hP
  have hx := Bd.exec
  have hby := Bd.bytes
  have hml : c.maxLocals = 2 := hml0
  have hown : s.vm.findClass nArrayL_9 = some m.cls := findClass_of_methodNamed Bd.named
  have hnm := (name_of_methodNamed Bd.named Bd.method).1
  have X0 : Stand p l e ({ frames := 2, cells := 0, slots := 0, locals := 27 } : Room) s m #[(.ref a1), (.int (0 : Int32))] below meth c s₁ [] 0 0 := Stand.of_body Bd
  have e0 : s₁.heap = h0 := by rw [← hh, Bd.state]; rfl
  have N0 := Fr.nil n0
  obtain ⟨f₀, hf₀⟩ : ∃ f, f = entryFrame m #[(.ref a1), (.int (0 : Int32))] 2 := ⟨_, rfl⟩
  rw [← hf₀]
  have pre0 : Go p e below s₁ f₀ s₁ (mkF m 0 #[.val (.ref a1), .val (.int (0 : Int32))] []) := fun t kk => castTop (hf₀.trans (ef_rc19_get m (a1) ((0 : Int32)))) kk
  obtain ⟨T1, X1, e1, st1⟩ := getF X0 hx hZ hown (host := "") (Or.inl (wq hw 192 rfl)) Via.refl e0 F_a1_size (g := (mkF m 2 #[.val (.ref a1), .val (.int (0 : Int32))] [(.ref a1), (.int (0 : Int32))])) rfl rfl (hb hby d_jdk_38_method_20_2)
  obtain ⟨_, _, ⟨T2, L2, k2, n2⟩, -, X2, ⟨Lc2, hQ2, l2, y2, z2⟩, st2⟩ := Jvm.LawKit.callS X1 hx (y := my_15) hown (mvT hZ (wq hw 218 rfl)) (mvT hZ (wq hw 219 rfl)) (mvT hZ (wq hw 81 rfl)) (mvT hZ (wq hw 220 rfl)) (by decide) (backOf (W := 0) (rc20_checkIndex l Z a0 hw [] cs aE hS  h0 n0 O0 ) hZ (wq hw 220 rfl) (wq hw 81 rfl) (by decide) (by decide)) (g := (mkF m 5 #[.val (.ref a1), .val (.int (0 : Int32))] [(.int (1 : Int32)), (.int (0 : Int32))])) rfl (by rw [hml]; rfl) (argsL := [(.int (0 : Int32)), (.int (1 : Int32))]) (rest := []) (lenOf pd_10 rfl) rfl (by show 2 * 0 + _ ≤ _; exact Nat.le_of_eq rfl) (hb hby d_jdk_38_method_20_5) (fun _ _ => ⟨rfl, e1, (by decide : 0 + 0 ≤ _), (by decide : 0 + 0 ≤ _)⟩)
  dsimp only [Pt.U, Pt.locs, Pt.cells, Pt.slots] at X2 l2 y2 z2 st2 hQ2
  have X2 := own_to X2 l2 y2 z2
  obtain ⟨rfl, N2q, e2⟩ := hQ2
  have N2 := Fr.app N0 N2q
  obtain ⟨cq3, kq3, q3a, q3b, q3c⟩ := isOf hZ e2 (E_a1)
  obtain ⟨_, _, ⟨T3, L3, k3, n3⟩, -, X3, ⟨Lc3, hQ3, l3, y3, z3⟩, st3⟩ := X2.virtualBack hx (y := my_16) (z := my_16) hown (mvT hZ (wq hw 225 rfl)) (mvT hZ (wq hw 226 rfl)) (notFace_of_selects (args := #[]) (mvT hZ (wq hw 228 rfl))) (mvT hZ (wq hw 228 rfl)) (mvT hZ (wq hw 227 rfl)) (by decide) (backOf (W := 0) (rc22_elementData l Z a0 hw [] cs aE hS a1 a2 cid4 a5 h0 n0 O0 g_a1 g_a2 F_a1_elementData V_a2 Ov_a2) hZ (wq hw 229 rfl) (wq hw 160 rfl) (by decide) (by decide)) q3a q3c (g := (mkF m 11 #[.val (.ref a1), .val (.int (0 : Int32))] [(.int (0 : Int32)), (.ref a1)])) rfl (by rw [hml]; rfl) (Steps.refl _) (argsL := [(.int (0 : Int32))]) (rest := []) (lenOf pd_11 rfl) rfl (by show 2 * 0 + _ ≤ _; exact Nat.le_of_eq rfl) (hb hby d_jdk_38_method_20_11) (fun _ _ => ⟨rfl, e2, (by decide : 0 + 0 ≤ _), (by decide : 0 + 0 ≤ _)⟩)
  dsimp only [Pt.U, Pt.locs, Pt.cells, Pt.slots] at X3 l3 y3 z3 st3 hQ3
  have X3 := own_to X3 l3 y3 z3
  obtain ⟨rfl, N3q, e3⟩ := hQ3
  have N3 := Fr.app N2 N3q
  obtain ⟨fs, hr, hrun, hended, hW, hsame⟩ := X3.leave (v := (some (.ref a5))) (fun h => by rw [Bd.returns] at h; cases h)
  refine ⟨_, _, pre0 _ ?_, hrun, hended, _, _, rfl, ?_, ⟨_, rfl⟩, hW, hsame.mono (by decide) (by decide)⟩
  · refine XS.iloadN X0.here hx rfl (hb hby d_jdk_38_method_20_0) rfl ?_
    refine XS.aloadN X0.here hx rfl (hb hby d_jdk_38_method_20_1) rfl rfl ?_
    refine st1 _ ?_
    refine st2 _ ?_
    refine XS.pop X2.here hx rfl (hb hby d_jdk_38_method_20_8) rfl rfl ?_
    refine XS.aloadN X2.here hx rfl (hb hby d_jdk_38_method_20_9) rfl rfl ?_
    refine XS.iloadN X2.here hx rfl (hb hby d_jdk_38_method_20_10) rfl ?_
    refine st3.trans ?_
    exact retOut X3 hx Bd.returns rfl (Or.inr (Or.inr (Or.inr (Or.inr ⟨rfl, rfl, rfl⟩)))) (hb hby d_jdk_38_method_20_14) hr
  · show Q_rc19_get Z aE a1 a2 cid4 a5 h0 n0 _ T3.heap _
    rw [e3]
    exact ⟨rfl, N3, rfl⟩
def Q_rc23_set (Z : State) (aE : Addr) (a1 : Addr) (a2 : Addr) (a3 : Addr) (cid6 : ClassId) (h0 : Heap) (n0 : Nat) (v : Option Value) (h : Heap) (L : List Loc) : Prop := v = some (.ref a2) ∧ Fr n0 L ∧ Keep h0 h [a3] ∧ Arv Z h a3 cid6 (.object nObject_12) (1 : Int32) [(.ref a2)] .null ∧ Ovr Z cid6 nObject_12
set_option maxRecDepth 65536 in
set_option maxHeartbeats 40000000 in
theorem rc23_set (l : Launch) (Z : State) (a0 : Array Value) (hw : ∀ d ∈ tables_1, d.before a0 Z = true) (ws : List Jvm.Cond) (cs : Int32) (aE : Addr) (hS : SB Z cs aE) (a1 : Addr) (a2 : Addr) (a3 : Addr) (cid6 : ClassId) (h0 : Heap) (n0 : Nat) (O0 : Old Z n0 h0) (g_a1 : n0 ≤ a1) (g_a3 : n0 ≤ a3) (E_a1 : Exa Z h0 a1 nArrayL_9) (F_a1_elementData : Fld Z h0 a1 nArrayL_9 "elementData" nObject_10 (.ref a3)) (F_a1_size : Fld Z h0 a1 nArrayL_9 "size" "I" (.int (1 : Int32))) (E_a2 : Exa Z h0 a2 nPredec_4) (V_a3 : Arv Z h0 a3 cid6 (.object nObject_12) (1 : Int32) [(.ref a2)] .null) (Ov_a3 : Ovr Z cid6 nObject_12) :
    Met l my_18 jdk_38_method_23_code 4 (some (.object nObject_12)) ws ({ frames := 2, cells := 0, slots := 0, locals := 27 } : Room) #[(.ref a1), (.int (0 : Int32)), (.ref a2)] Z h0 (Q_rc23_set Z aE a1 a2 a3 cid6 h0 n0) := by
  refine MetFree.of_bodySF (plainFor_of_name pn_6) hisR ?_
  intro p e s m args below meth c s₁ Bd hml0 hP hK
  obtain ⟨rfl, hZ, hh⟩ := hP
  have hx := Bd.exec
  have hby := Bd.bytes
  have hml : c.maxLocals = 4 := hml0
  have hown : s.vm.findClass nArrayL_9 = some m.cls := findClass_of_methodNamed Bd.named
  have hnm := (name_of_methodNamed Bd.named Bd.method).1
  have X0 : Stand p l e ({ frames := 2, cells := 0, slots := 0, locals := 27 } : Room) s m #[(.ref a1), (.int (0 : Int32)), (.ref a2)] below meth c s₁ [] 0 0 := Stand.of_body Bd
  have e0 : s₁.heap = h0 := by rw [← hh, Bd.state]; rfl
  have N0 := Fr.nil n0
  obtain ⟨f₀, hf₀⟩ : ∃ f, f = entryFrame m #[(.ref a1), (.int (0 : Int32)), (.ref a2)] 4 := ⟨_, rfl⟩
  rw [← hf₀]
  have pre0 : Go p e below s₁ f₀ s₁ (mkF m 0 #[.val (.ref a1), .val (.int (0 : Int32)), .val (.ref a2), .unset] []) := fun t kk => castTop (hf₀.trans (ef_rc23_set m (a1) ((0 : Int32)) (a2))) kk
  obtain ⟨T1, X1, e1, st1⟩ := getF X0 hx hZ hown (host := "") (Or.inl (wq hw 192 rfl)) Via.refl e0 F_a1_size (g := (mkF m 2 #[.val (.ref a1), .val (.int (0 : Int32)), .val (.ref a2), .unset] [(.ref a1), (.int (0 : Int32))])) rfl rfl (hb hby d_jdk_38_method_23_2)
  obtain ⟨_, _, ⟨T2, L2, k2, n2⟩, -, X2, ⟨Lc2, hQ2, l2, y2, z2⟩, st2⟩ := Jvm.LawKit.callS X1 hx (y := my_15) hown (mvT hZ (wq hw 218 rfl)) (mvT hZ (wq hw 219 rfl)) (mvT hZ (wq hw 81 rfl)) (mvT hZ (wq hw 220 rfl)) (by decide) (backOf (W := 0) (rc20_checkIndex l Z a0 hw [] cs aE hS  h0 n0 O0 ) hZ (wq hw 220 rfl) (wq hw 81 rfl) (by decide) (by decide)) (g := (mkF m 5 #[.val (.ref a1), .val (.int (0 : Int32)), .val (.ref a2), .unset] [(.int (1 : Int32)), (.int (0 : Int32))])) rfl (by rw [hml]; rfl) (argsL := [(.int (0 : Int32)), (.int (1 : Int32))]) (rest := []) (lenOf pd_10 rfl) rfl (by show 2 * 0 + _ ≤ _; exact Nat.le_of_eq rfl) (hb hby d_jdk_38_method_23_5) (fun _ _ => ⟨rfl, e1, (by decide : 0 + 0 ≤ _), (by decide : 0 + 0 ≤ _)⟩)
  dsimp only [Pt.U, Pt.locs, Pt.cells, Pt.slots] at X2 l2 y2 z2 st2 hQ2
  have X2 := own_to X2 l2 y2 z2
  obtain ⟨rfl, N2q, e2⟩ := hQ2
  have N2 := Fr.app N0 N2q
  obtain ⟨cq3, kq3, q3a, q3b, q3c⟩ := isOf hZ e2 (E_a1)
  obtain ⟨_, _, ⟨T3, L3, k3, n3⟩, -, X3, ⟨Lc3, hQ3, l3, y3, z3⟩, st3⟩ := X2.virtualBack hx (y := my_16) (z := my_16) hown (mvT hZ (wq hw 225 rfl)) (mvT hZ (wq hw 226 rfl)) (notFace_of_selects (args := #[]) (mvT hZ (wq hw 228 rfl))) (mvT hZ (wq hw 228 rfl)) (mvT hZ (wq hw 227 rfl)) (by decide) (backOf (W := 0) (rc22_elementData l Z a0 hw [] cs aE hS a1 a3 cid6 a2 h0 n0 O0 g_a1 g_a3 F_a1_elementData V_a3 Ov_a3) hZ (wq hw 229 rfl) (wq hw 160 rfl) (by decide) (by decide)) q3a q3c (g := (mkF m 11 #[.val (.ref a1), .val (.int (0 : Int32)), .val (.ref a2), .unset] [(.int (0 : Int32)), (.ref a1)])) rfl (by rw [hml]; rfl) (Steps.refl _) (argsL := [(.int (0 : Int32))]) (rest := []) (lenOf pd_11 rfl) rfl (by show 2 * 0 + _ ≤ _; exact Nat.le_of_eq rfl) (hb hby d_jdk_38_method_23_11) (fun _ _ => ⟨rfl, e2, (by decide : 0 + 0 ≤ _), (by decide : 0 + 0 ≤ _)⟩)
  dsimp only [Pt.U, Pt.locs, Pt.cells, Pt.slots] at X3 l3 y3 z3 st3 hQ3
  have X3 := own_to X3 l3 y3 z3
  obtain ⟨rfl, N3q, e3⟩ := hQ3
  have N3 := Fr.app N2 N3q
  obtain ⟨T4, X4, e4, st4⟩ := getF X3 hx hZ hown (host := "") (Or.inl (wq hw 181 rfl)) Via.refl e3 F_a1_elementData (g := (mkF m 16 #[.val (.ref a1), .val (.int (0 : Int32)), .val (.ref a2), .val (.ref a2)] [(.ref a1)])) rfl rfl (hb hby d_jdk_38_method_23_16)
  obtain ⟨c5, Ar5, q5, S5, M5, Hh5, G5⟩ := (id V_a3)
  have hin5 : ¬ ((0 : Int32) < 0 ∨ c5.slots.size ≤ ((0 : Int32)).toNatClampNeg) := inb_of S5 ⟨by decide, by decide⟩
  obtain ⟨T6, h6, X6, e6, W6, st6⟩ := stR X4 hx hZ e4 Ar5 (j := (0 : Int32)) hin5 rfl (Sto.ofV Ar5 q5 Ov_a3 (Ins.of_exa E_a2 (wq hw 209 rfl))) (g := (mkF m 21 #[.val (.ref a1), .val (.int (0 : Int32)), .val (.ref a2), .val (.ref a2)] [(.ref a2), (.int (0 : Int32)), (.ref a3)])) rfl rfl (hb hby d_jdk_38_method_23_21)
  have v7 : Arv Z h6 a3 cid6 (.object nObject_12) (1 : Int32) [(.ref a2)] .null := Arv.set Ar5 q5 S5 M5 Hh5 G5 rfl W6 0 rfl (Nat.le_of_ble_eq_true rfl)
  have N6 := Fr.snoc X6 N3 g_a3
  have O8 : Old Z n0 h6 := Old.wr O0 W6 g_a3
  have K9 : Keep h0 h6 [a3] := (Keep.refl h0 [a3]).wr W6 (Or.inl (List.mem_of_getElem? (i := 0) rfl))
  obtain ⟨fs, hr, hrun, hended, hW, hsame⟩ := X6.leave (v := (some (.ref a2))) (fun h => by rw [Bd.returns] at h; cases h)
  refine ⟨_, _, pre0 _ ?_, hrun, hended, _, _, rfl, ?_, ⟨_, rfl⟩, hW, hsame.mono (by decide) (by decide)⟩
  · refine XS.iloadN X0.here hx rfl (hb hby d_jdk_38_method_23_0) rfl ?_
    refine XS.aloadN X0.here hx rfl (hb hby d_jdk_38_method_23_1) rfl rfl ?_
    refine st1 _ ?_
    refine st2 _ ?_
    refine XS.pop X2.here hx rfl (hb hby d_jdk_38_method_23_8) rfl rfl ?_
    refine XS.aloadN X2.here hx rfl (hb hby d_jdk_38_method_23_9) rfl rfl ?_
    refine XS.iloadN X2.here hx rfl (hb hby d_jdk_38_method_23_10) rfl ?_
    refine st3.trans ?_
    refine XS.astoreN X3.here hx rfl (hb hby d_jdk_38_method_23_14) rfl rfl (l' := #[.val (.ref a1), .val (.int (0 : Int32)), .val (.ref a2), .val (.ref a2)]) rfl ?_
    refine XS.aloadN X3.here hx rfl (hb hby d_jdk_38_method_23_15) rfl rfl ?_
    refine st4 _ ?_
    refine XS.iloadN X4.here hx rfl (hb hby d_jdk_38_method_23_19) rfl ?_
    refine XS.aloadN X4.here hx rfl (hb hby d_jdk_38_method_23_20) rfl rfl ?_
    refine st6 _ ?_
    refine XS.aloadN X6.here hx rfl (hb hby d_jdk_38_method_23_22) rfl rfl ?_
    exact retOut X6 hx Bd.returns rfl (Or.inr (Or.inr (Or.inr (Or.inr ⟨rfl, rfl, rfl⟩)))) (hb hby d_jdk_38_method_23_23) hr
  · show Q_rc23_set Z aE a1 a2 a3 cid6 h0 n0 _ T6.heap _
    rw [e6]
    exact ⟨rfl, N6, K9, v7, Ov_a3⟩
def Q_rc17_name (Z : State) (aE : Addr) (a1 : Addr) (a2 : Addr) (a3 : Addr) (a4 : Addr) (j5 : Int64) (a6 : Addr) (a7 : Addr) (j10 : Int64) (cid11 : ClassId) (h0 : Heap) (n0 : Nat) (v : Option Value) (h : Heap) (L : List Loc) : Prop := v = some (.ref a2) ∧ Fr n0 L ∧ Keep h0 h [a7] ∧ Arv Z h a7 cid11 (.object nObject_12) (1 : Int32) [(.ref a2)] .null ∧ Ovr Z cid11 nObject_12
set_option maxRecDepth 65536 in
set_option maxHeartbeats 40000000 in
theorem rc17_name (l : Launch) (Z : State) (a0 : Array Value) (hw : ∀ d ∈ tables_1, d.before a0 Z = true) (ws : List Jvm.Cond) (cs : Int32) (aE : Addr) (hS : SB Z cs aE) (a1 : Addr) (a2 : Addr) (a3 : Addr) (a4 : Addr) (j5 : Int64) (a6 : Addr) (a7 : Addr) (j10 : Int64) (cid11 : ClassId) (h0 : Heap) (n0 : Nat) (O0 : Old Z n0 h0) (g_a1 : n0 ≤ a1) (g_a3 : n0 ≤ a3) (g_a7 : n0 ≤ a7) (F_a1_alsoNamed : Fld Z h0 a1 nKnownO_3 "alsoNamed" nList_8 (.ref a3)) (F_a1_named : Fld Z h0 a1 nKnownO_3 "named" nPredec_7 (.ref a4)) (F_a1_namedSeq : Fld Z h0 a1 nKnownO_3 "namedSeq" "J" (.long j5)) (E_a2 : Exa Z h0 a2 nPredec_4) (F_a2_id : Fld Z h0 a2 nPredec_4 "id" nMessag_5 (.ref a6)) (E_a3 : Exa Z h0 a3 nArrayL_9) (F_a3_elementData : Fld Z h0 a3 nArrayL_9 "elementData" nObject_10 (.ref a7)) (F_a3_size : Fld Z h0 a3 nArrayL_9 "size" "I" (.int (1 : Int32))) (E_a6 : Exa Z h0 a6 nMessag_6) (F_a6_seq : Fld Z h0 a6 nMessag_6 "seq" "J" (.long j10)) (V_a7 : Arv Z h0 a7 cid11 (.object nObject_12) (1 : Int32) [(.ref a2)] .null) (Ov_a7 : Ovr Z cid11 nObject_12) (hy0 : ¬ j5 = j10) :
    Met l my_3 prog_22_method_11_code 5 (some (.object nPredec_4)) ws ({ frames := 3, cells := 0, slots := 0, locals := 42 } : Room) #[(.ref a1), (.ref a2)] Z h0 (Q_rc17_name Z aE a1 a2 a3 a4 j5 a6 a7 j10 cid11 h0 n0) := by
  refine MetFree.of_bodySF (plainFor_of_name pn_2) hisR ?_
  intro p e s m args below meth c s₁ Bd hml0 hP hK
  obtain ⟨rfl, hZ, hh⟩ := hP
  have hx := Bd.exec
  have hby := Bd.bytes
  have hml : c.maxLocals = 5 := hml0
  have hown : s.vm.findClass nKnownO_3 = some m.cls := findClass_of_methodNamed Bd.named
  have hnm := (name_of_methodNamed Bd.named Bd.method).1
  have X0 : Stand p l e ({ frames := 3, cells := 0, slots := 0, locals := 42 } : Room) s m #[(.ref a1), (.ref a2)] below meth c s₁ [] 0 0 := Stand.of_body Bd
  have e0 : s₁.heap = h0 := by rw [← hh, Bd.state]; rfl
  have N0 := Fr.nil n0
  obtain ⟨f₀, hf₀⟩ : ∃ f, f = entryFrame m #[(.ref a1), (.ref a2)] 5 := ⟨_, rfl⟩
  rw [← hf₀]
  have pre0 : Go p e below s₁ f₀ s₁ (mkF m 0 #[.val (.ref a1), .val (.ref a2), .unset, .unset, .unset] []) := fun t kk => castTop (hf₀.trans (ef_rc17_name m (a1) (a2))) kk
  obtain ⟨cq1, kq1, q1a, q1b, q1c⟩ := isOf hZ e0 (E_a2)
  obtain ⟨_, _, ⟨T1, L1, k1, n1⟩, -, X1, ⟨Lc1, hQ1, l1, y1, z1⟩, st1⟩ := X0.virtualBack hx (y := my_1) (z := my_1) hown (mvT hZ (wq hw 144 rfl)) (mvT hZ (wq hw 145 rfl)) (notFace_of_selects (args := #[]) (mvT hZ (wq hw 147 rfl))) (mvT hZ (wq hw 147 rfl)) (mvT hZ (wq hw 146 rfl)) (by decide) (backOf (W := 0) (rc2_id l Z a0 hw [] cs aE hS a2 a6 h0 n0 O0 F_a2_id) hZ (wq hw 148 rfl) (wq hw 63 rfl) (by decide) (by decide)) q1a q1c (g := (mkF m 1 #[.val (.ref a1), .val (.ref a2), .unset, .unset, .unset] [(.ref a2)])) rfl (by rw [hml]; rfl) (Steps.refl _) (argsL := []) (rest := []) (lenOf pd_0 rfl) rfl (by show 2 * 0 + _ ≤ _; exact Nat.le_of_eq rfl) (hb hby d_prog_22_method_11_1) (fun _ _ => ⟨rfl, e0, (by decide : 0 + 0 ≤ _), (by decide : 0 + 0 ≤ _)⟩)
  dsimp only [Pt.U, Pt.locs, Pt.cells, Pt.slots] at X1 l1 y1 z1 st1 hQ1
  have X1 := own_to X1 l1 y1 z1
  obtain ⟨rfl, N1q, e1⟩ := hQ1
  have N1 := Fr.app N0 N1q
  obtain ⟨cq2, kq2, q2a, q2b, q2c⟩ := isOf hZ e1 (E_a6)
  obtain ⟨_, _, ⟨T2, L2, k2, n2⟩, -, X2, ⟨Lc2, hQ2, l2, y2, z2⟩, st2⟩ := X1.virtualBack hx (y := my_2) (z := my_2) hown (mvT hZ (wq hw 149 rfl)) (mvT hZ (wq hw 150 rfl)) (notFace_of_selects (args := #[]) (mvT hZ (wq hw 152 rfl))) (mvT hZ (wq hw 152 rfl)) (mvT hZ (wq hw 151 rfl)) (by decide) (backOf (W := 0) (rc3_seq l Z a0 hw [] cs aE hS a6 j10 h0 n0 O0 F_a6_seq) hZ (wq hw 153 rfl) (wq hw 66 rfl) (by decide) (by decide)) q2a q2c (g := (mkF m 4 #[.val (.ref a1), .val (.ref a2), .unset, .unset, .unset] [(.ref a6)])) rfl (by rw [hml]; rfl) (Steps.refl _) (argsL := []) (rest := []) (lenOf pd_1 rfl) rfl (by show 2 * 0 + _ ≤ _; exact Nat.le_of_eq rfl) (hb hby d_prog_22_method_11_4) (fun _ _ => ⟨rfl, e1, (by decide : 0 + 0 ≤ _), (by decide : 0 + 0 ≤ _)⟩)
  dsimp only [Pt.U, Pt.locs, Pt.cells, Pt.slots] at X2 l2 y2 z2 st2 hQ2
  have X2 := own_to X2 l2 y2 z2
  obtain ⟨rfl, N2q, e2⟩ := hQ2
  have N2 := Fr.app N1 N2q
  obtain ⟨T3, X3, e3, st3⟩ := getF X2 hx hZ hown (host := "") (Or.inl (wq hw 128 rfl)) Via.refl e2 F_a1_named (g := (mkF m 9 #[.val (.ref a1), .val (.ref a2), .val (.long j10), .second, .unset] [(.ref a1)])) rfl rfl (hb hby d_prog_22_method_11_9)
  obtain ⟨T4, X4, e4, st4⟩ := getF X3 hx hZ hown (host := "") (Or.inl (wq hw 154 rfl)) Via.refl e3 F_a1_namedSeq (g := (mkF m 16 #[.val (.ref a1), .val (.ref a2), .val (.long j10), .second, .unset] [(.ref a1)])) rfl rfl (hb hby d_prog_22_method_11_16)
  obtain ⟨T5, X5, e5, st5⟩ := getF X4 hx hZ hown (host := "") (Or.inl (wq hw 156 rfl)) Via.refl e4 F_a1_alsoNamed (g := (mkF m 44 #[.val (.ref a1), .val (.ref a2), .val (.long j10), .second, .unset] [(.ref a1)])) rfl rfl (hb hby d_prog_22_method_11_44)
  obtain ⟨T6, X6, e6, st6⟩ := getF X5 hx hZ hown (host := "") (Or.inl (wq hw 156 rfl)) Via.refl e5 F_a1_alsoNamed (g := (mkF m 68 #[.val (.ref a1), .val (.ref a2), .val (.long j10), .second, .val (.int (0 : Int32))] [(.ref a1), (.int (0 : Int32))])) rfl rfl (hb hby d_prog_22_method_11_68)
  obtain ⟨cq7, kq7, q7a, q7b, q7c⟩ := isOf hZ e6 (E_a3)
  obtain ⟨_, _, ⟨T7, L7, k7, n7⟩, -, X7, ⟨Lc7, hQ7, l7, y7, z7⟩, st7⟩ := X6.interfaceBack hx (xi := my_12) (y := my_9) hown (mvT hZ (wq hw 183 rfl)) (mvT hZ (wq hw 184 rfl)) (mvT hZ (wq hw 185 rfl)) (mvT hZ (wq hw 186 rfl)) (mvT hZ (wq hw 187 rfl)) (mvT hZ (wq hw 188 rfl)) (mvT hZ (wq hw 189 rfl)) (mvT hZ (wq hw 190 rfl)) (by decide) (backOf (W := 1) (rc18_size l Z a0 hw [] cs aE hS a3 h0 n0 O0 g_a3 F_a3_size) hZ (wq hw 191 rfl) (wq hw 160 rfl) (by decide) (by decide)) q7a q7b q7c (g := (mkF m 71 #[.val (.ref a1), .val (.ref a2), .val (.long j10), .second, .val (.int (0 : Int32))] [(.ref a3), (.int (0 : Int32))])) rfl (by rw [hml]; rfl) (Steps.refl _) (argsL := []) (rest := [(.int (0 : Int32))]) (lenOf pd_6 rfl) rfl (by show 2 * 0 + _ ≤ _; exact Nat.le_of_eq rfl) (hb hby d_prog_22_method_11_71) (fun _ _ => ⟨rfl, e6, (by decide : 0 + 0 ≤ _), (by decide : 0 + 0 ≤ _)⟩)
  dsimp only [Pt.U, Pt.locs, Pt.cells, Pt.slots] at X7 l7 y7 z7 st7 hQ7
  have X7 := own_to X7 l7 y7 z7
  obtain ⟨rfl, N7q, e7⟩ := hQ7
  have N7 := Fr.app N2 N7q
  obtain ⟨T8, X8, e8, st8⟩ := getF X7 hx hZ hown (host := "") (Or.inl (wq hw 156 rfl)) Via.refl e7 F_a1_alsoNamed (g := (mkF m 80 #[.val (.ref a1), .val (.ref a2), .val (.long j10), .second, .val (.int (0 : Int32))] [(.ref a1)])) rfl rfl (hb hby d_prog_22_method_11_80)
  obtain ⟨cq9, kq9, q9a, q9b, q9c⟩ := isOf hZ e8 (E_a3)
  obtain ⟨_, _, ⟨T9, L9, k9, n9⟩, -, X9, ⟨Lc9, hQ9, l9, y9, z9⟩, st9⟩ := X8.interfaceBack hx (xi := my_19) (y := my_17) hown (mvT hZ (wq hw 210 rfl)) (mvT hZ (wq hw 211 rfl)) (mvT hZ (wq hw 212 rfl)) (mvT hZ (wq hw 213 rfl)) (mvT hZ (wq hw 214 rfl)) (mvT hZ (wq hw 215 rfl)) (mvT hZ (wq hw 216 rfl)) (mvT hZ (wq hw 190 rfl)) (by decide) (backOf (W := 0) (rc19_get l Z a0 hw [] cs aE hS a3 a7 cid11 a2 h0 n0 O0 g_a3 g_a7 E_a3 F_a3_elementData F_a3_size V_a7 Ov_a7) hZ (wq hw 217 rfl) (wq hw 160 rfl) (by decide) (by decide)) q9a q9b q9c (g := (mkF m 85 #[.val (.ref a1), .val (.ref a2), .val (.long j10), .second, .val (.int (0 : Int32))] [(.int (0 : Int32)), (.ref a3)])) rfl (by rw [hml]; rfl) (Steps.refl _) (argsL := [(.int (0 : Int32))]) (rest := []) (lenOf pd_11 rfl) rfl (by show 2 * 0 + _ ≤ _; exact Nat.le_of_eq rfl) (hb hby d_prog_22_method_11_85) (fun _ _ => ⟨rfl, e8, (by decide : 0 + 0 ≤ _), (by decide : 0 + 0 ≤ _)⟩)
  dsimp only [Pt.U, Pt.locs, Pt.cells, Pt.slots] at X9 l9 y9 z9 st9 hQ9
  have X9 := own_to X9 l9 y9 z9
  obtain ⟨rfl, N9q, e9⟩ := hQ9
  have N9 := Fr.app N7 N9q
  obtain ⟨T10, X10, e10, st10⟩ := castY X9 hx hZ hown (wq hw 230 rfl) e9 (Ins.self E_a2) (g := (mkF m 90 #[.val (.ref a1), .val (.ref a2), .val (.long j10), .second, .val (.int (0 : Int32))] [(.ref a2)])) rfl rfl (hb hby d_prog_22_method_11_90)
  obtain ⟨cq11, kq11, q11a, q11b, q11c⟩ := isOf hZ e10 (E_a2)
  obtain ⟨_, _, ⟨T11, L11, k11, n11⟩, -, X11, ⟨Lc11, hQ11, l11, y11, z11⟩, st11⟩ := X10.virtualBack hx (y := my_1) (z := my_1) hown (mvT hZ (wq hw 144 rfl)) (mvT hZ (wq hw 145 rfl)) (notFace_of_selects (args := #[]) (mvT hZ (wq hw 147 rfl))) (mvT hZ (wq hw 147 rfl)) (mvT hZ (wq hw 146 rfl)) (by decide) (backOf (W := 0) (rc2_id l Z a0 hw [] cs aE hS a2 a6 h0 n0 O0 F_a2_id) hZ (wq hw 148 rfl) (wq hw 63 rfl) (by decide) (by decide)) q11a q11c (g := (mkF m 93 #[.val (.ref a1), .val (.ref a2), .val (.long j10), .second, .val (.int (0 : Int32))] [(.ref a2)])) rfl (by rw [hml]; rfl) (Steps.refl _) (argsL := []) (rest := []) (lenOf pd_0 rfl) rfl (by show 2 * 0 + _ ≤ _; exact Nat.le_of_eq rfl) (hb hby d_prog_22_method_11_93) (fun _ _ => ⟨rfl, e10, (by decide : 0 + 0 ≤ _), (by decide : 0 + 0 ≤ _)⟩)
  dsimp only [Pt.U, Pt.locs, Pt.cells, Pt.slots] at X11 l11 y11 z11 st11 hQ11
  have X11 := own_to X11 l11 y11 z11
  obtain ⟨rfl, N11q, e11⟩ := hQ11
  have N11 := Fr.app N9 N11q
  obtain ⟨cq12, kq12, q12a, q12b, q12c⟩ := isOf hZ e11 (E_a6)
  obtain ⟨_, _, ⟨T12, L12, k12, n12⟩, -, X12, ⟨Lc12, hQ12, l12, y12, z12⟩, st12⟩ := X11.virtualBack hx (y := my_2) (z := my_2) hown (mvT hZ (wq hw 149 rfl)) (mvT hZ (wq hw 150 rfl)) (notFace_of_selects (args := #[]) (mvT hZ (wq hw 152 rfl))) (mvT hZ (wq hw 152 rfl)) (mvT hZ (wq hw 151 rfl)) (by decide) (backOf (W := 0) (rc3_seq l Z a0 hw [] cs aE hS a6 j10 h0 n0 O0 F_a6_seq) hZ (wq hw 153 rfl) (wq hw 66 rfl) (by decide) (by decide)) q12a q12c (g := (mkF m 96 #[.val (.ref a1), .val (.ref a2), .val (.long j10), .second, .val (.int (0 : Int32))] [(.ref a6)])) rfl (by rw [hml]; rfl) (Steps.refl _) (argsL := []) (rest := []) (lenOf pd_1 rfl) rfl (by show 2 * 0 + _ ≤ _; exact Nat.le_of_eq rfl) (hb hby d_prog_22_method_11_96) (fun _ _ => ⟨rfl, e11, (by decide : 0 + 0 ≤ _), (by decide : 0 + 0 ≤ _)⟩)
  dsimp only [Pt.U, Pt.locs, Pt.cells, Pt.slots] at X12 l12 y12 z12 st12 hQ12
  have X12 := own_to X12 l12 y12 z12
  obtain ⟨rfl, N12q, e12⟩ := hQ12
  have N12 := Fr.app N11 N12q
  obtain ⟨T13, X13, e13, st13⟩ := getF X12 hx hZ hown (host := "") (Or.inl (wq hw 156 rfl)) Via.refl e12 F_a1_alsoNamed (g := (mkF m 105 #[.val (.ref a1), .val (.ref a2), .val (.long j10), .second, .val (.int (0 : Int32))] [(.ref a1)])) rfl rfl (hb hby d_prog_22_method_11_105)
  obtain ⟨cq14, kq14, q14a, q14b, q14c⟩ := isOf hZ e13 (E_a3)
  obtain ⟨_, _, ⟨T14, L14, k14, n14⟩, -, X14, ⟨Lc14, hQ14, l14, y14, z14⟩, st14⟩ := X13.interfaceBack hx (xi := my_20) (y := my_18) hown (mvT hZ (wq hw 232 rfl)) (mvT hZ (wq hw 233 rfl)) (mvT hZ (wq hw 234 rfl)) (mvT hZ (wq hw 235 rfl)) (mvT hZ (wq hw 236 rfl)) (mvT hZ (wq hw 237 rfl)) (mvT hZ (wq hw 238 rfl)) (mvT hZ (wq hw 190 rfl)) (by decide) (backOf (W := 0) (rc23_set l Z a0 hw [] cs aE hS a3 a2 a7 cid11 h0 n0 O0 g_a3 g_a7 E_a3 F_a3_elementData F_a3_size E_a2 V_a7 Ov_a7) hZ (wq hw 239 rfl) (wq hw 160 rfl) (by decide) (by decide)) q14a q14b q14c (g := (mkF m 111 #[.val (.ref a1), .val (.ref a2), .val (.long j10), .second, .val (.int (0 : Int32))] [(.ref a2), (.int (0 : Int32)), (.ref a3)])) rfl (by rw [hml]; rfl) (Steps.refl _) (argsL := [(.int (0 : Int32)), (.ref a2)]) (rest := []) (lenOf pd_12 rfl) rfl (by show 2 * 0 + _ ≤ _; exact Nat.le_of_eq rfl) (hb hby d_prog_22_method_11_111) (fun _ _ => ⟨rfl, e13, (by decide : 0 + 0 ≤ _), (by decide : 0 + 0 ≤ _)⟩)
  dsimp only [Pt.U, Pt.locs, Pt.cells, Pt.slots] at X14 l14 y14 z14 st14 hQ14
  have X14 := own_to X14 l14 y14 z14
  obtain ⟨rfl, N14q, K14, q14_0, q14_1⟩ := hQ14
  have N14 := Fr.app N12 N14q
  have O15 : Old Z n0 T14.heap := Old.keep O0 K14 (allS g_a7 all0)
  have K16 : Keep h0 T14.heap [a7] := (Keep.refl h0 [a7]).trans K14 (allS (Or.inl (List.mem_of_getElem? (i := 0) rfl)) all0)
  have t17 : Exa Z T14.heap a2 nPredec_4 := (E_a2.keep K14)
  obtain ⟨T18, X18, e18, st18⟩ := castY X14 hx hZ hown (wq hw 230 rfl) rfl (Ins.self t17) (g := (mkF m 116 #[.val (.ref a1), .val (.ref a2), .val (.long j10), .second, .val (.int (0 : Int32))] [(.ref a2)])) rfl rfl (hb hby d_prog_22_method_11_116)
  obtain ⟨fs, hr, hrun, hended, hW, hsame⟩ := X18.leave (v := (some (.ref a2))) (fun h => by rw [Bd.returns] at h; cases h)
  refine ⟨_, _, pre0 _ ?_, hrun, hended, _, _, rfl, ?_, ⟨_, rfl⟩, hW, hsame.mono (by decide) (by decide)⟩
  · refine XS.aloadN X0.here hx rfl (hb hby d_prog_22_method_11_0) rfl rfl ?_
    refine st1.trans ?_
    refine st2.trans ?_
    refine XS.lstoreN X2.here hx rfl (hb hby d_prog_22_method_11_7) rfl (l' := #[.val (.ref a1), .val (.ref a2), .val (.long j10), .second, .unset]) rfl ?_
    refine XS.aloadN X2.here hx rfl (hb hby d_prog_22_method_11_8) rfl rfl ?_
    refine st3 _ ?_
    refine XS.ifnullNo X3.here hx rfl (hb hby d_prog_22_method_11_12) rfl ?_
    refine XS.aloadN X3.here hx rfl (hb hby d_prog_22_method_11_15) rfl rfl ?_
    refine st4 _ ?_
    refine XS.lloadN X4.here hx rfl (hb hby d_prog_22_method_11_19) rfl ?_
    refine XS.lcmp X4.here hx rfl (hb hby d_prog_22_method_11_20) rfl ?_
    refine XS.ifYes X4.here hx rfl (pc0 := 21) (pc' := 43) rfl (hb hby d_prog_22_method_11_21) rfl ((if0 _ _).trans (feq (fun q => hy0 ((lw_eq _ _).mp q))).2) (by decide) (by decide) ?_
    refine XS.aloadN X4.here hx rfl (hb hby d_prog_22_method_11_43) rfl rfl ?_
    refine st5 _ ?_
    refine XS.ifnonnullYes X5.here hx rfl (pc0 := 47) (pc' := 62) rfl (hb hby d_prog_22_method_11_47) rfl (by decide) (by decide) ?_
    refine XS.iconst X5.here hx rfl (hb hby d_prog_22_method_11_62) ?_
    refine XS.istore X5.here hx rfl (hb hby d_prog_22_method_11_63) rfl (l' := #[.val (.ref a1), .val (.ref a2), .val (.long j10), .second, .val (.int (0 : Int32))]) rfl ?_
    refine XS.iload X5.here hx rfl (hb hby d_prog_22_method_11_65) rfl ?_
    refine XS.aloadN X5.here hx rfl (hb hby d_prog_22_method_11_67) rfl rfl ?_
    refine st6 _ ?_
    refine st7.trans ?_
    refine XS.icmpNo X7.here hx rfl (hb hby d_prog_22_method_11_76) rfl (tlt (by decide : (0 : Int32) < (1 : Int32))).2.1 ?_
    refine XS.aloadN X7.here hx rfl (hb hby d_prog_22_method_11_79) rfl rfl ?_
    refine st8 _ ?_
    refine XS.iload X8.here hx rfl (hb hby d_prog_22_method_11_83) rfl ?_
    refine st9.trans ?_
    refine st10 _ ?_
    refine st11.trans ?_
    refine st12.trans ?_
    refine XS.lloadN X12.here hx rfl (hb hby d_prog_22_method_11_99) rfl ?_
    refine XS.lcmp X12.here hx rfl (hb hby d_prog_22_method_11_100) rfl ?_
    refine XS.ifNo X12.here hx rfl (hb hby d_prog_22_method_11_101) rfl ((if0 _ _).trans (teq ((lw_eq _ _).mpr rfl)).2) ?_
    refine XS.aloadN X12.here hx rfl (hb hby d_prog_22_method_11_104) rfl rfl ?_
    refine st13 _ ?_
    refine XS.iload X13.here hx rfl (hb hby d_prog_22_method_11_108) rfl ?_
    refine XS.aloadN X13.here hx rfl (hb hby d_prog_22_method_11_110) rfl rfl ?_
    refine st14.trans ?_
    refine st18 _ ?_
    exact retOut X18 hx Bd.returns rfl (Or.inr (Or.inr (Or.inr (Or.inr ⟨rfl, rfl, rfl⟩)))) (hb hby d_prog_22_method_11_119) hr
  · show Q_rc17_name Z aE a1 a2 a3 a4 j5 a6 a7 j10 cid11 h0 n0 _ T18.heap _
    rw [e18]
    exact ⟨rfl, N14, K16, q14_0, q14_1⟩
set_option maxRecDepth 65536 in
set_option maxHeartbeats 40000000 in
theorem rs_N_AB_1 (l : Launch) (Z : State) (a0 : Array Value) (hw : ∀ d ∈ tables_1, d.before a0 Z = true) (ws : List Jvm.Cond) (cs : Int32) (aE : Addr) (hS : SB Z cs aE) (k pA mA : Addr) (sa : Int64) (pB mB : Addr) (sb : Int64) (h0 : Heap) (n0 : Nat) (O0 : Old Z n0 h0) (hq : ¬ sa = sb) (hFB : FB Z n0 h0 k pA mA sa pB mB sb) (hKS : KS2 Z n0 h0 k pA sa pB) :
    Met l my_4 method_3_code 10 (some .int) ws ({ frames := 5, cells := 2, slots := 4, locals := 67 } : Room) #[(.ref k), (.int (1 : Int32)), (.ref pA), (.ref pB), (.long sa), (.long sb), (.int (0 : Int32)), (.int (3 : Int32))] Z h0 (QSN Z k pA mA sa pB mB sb h0 n0) := by
  refine MetFree.of_bodySF (plainFor_of_name pn_3) hisR ?_
  intro p e s m args below meth c s₁ Bd hml0 hP hK
  obtain ⟨rfl, hZ, hh⟩ := hP
  have hx := Bd.exec
  have hby := Bd.bytes
  have hml : c.maxLocals = 10 := hml0
  have hown : s.vm.findClass nKnownO_13 = some m.cls := findClass_of_methodNamed Bd.named
  have hnm := (name_of_methodNamed Bd.named Bd.method).1
  have X0 : Stand p l e ({ frames := 5, cells := 2, slots := 4, locals := 67 } : Room) s m #[(.ref k), (.int (1 : Int32)), (.ref pA), (.ref pB), (.long sa), (.long sb), (.int (0 : Int32)), (.int (3 : Int32))] below meth c s₁ [] 0 0 := Stand.of_body Bd
  have e0 : s₁.heap = h0 := by rw [← hh, Bd.state]; rfl
  have N0 := Fr.nil n0
  obtain ⟨f₀, hf₀⟩ : ∃ f, f = entryFrame m #[(.ref k), (.int (1 : Int32)), (.ref pA), (.ref pB), (.long sa), (.long sb), (.int (0 : Int32)), (.int (3 : Int32))] 10 := ⟨_, rfl⟩
  rw [← hf₀]
  have pre0 : Go p e below s₁ f₀ s₁ (mkF m 0 #[.val (.ref k), .val (.int (1 : Int32)), .val (.ref pA), .val (.ref pB), .val (.long sa), .second, .val (.long sb), .second, .val (.int (0 : Int32)), .val (.int (3 : Int32))] []) := fun t kk => castTop (hf₀.trans (ef_rs_N_AB_1 m (k) ((1 : Int32)) (pA) (pB) (sa) (sb) ((0 : Int32)) ((3 : Int32)))) kk
  obtain ⟨Ek, gk, EpA, FpA, EmA, FmA, EpB, FpB, EmB, FmB⟩ := hFB
  obtain ⟨L, E, ce, mc, KN1, KN2, KN3, EL, FL1, FL2, FL3, VE, OE, gL, gE⟩ := hKS
  obtain ⟨cq1, kq1, q1a, q1b, q1c⟩ := isOf hZ e0 (Ek)
  obtain ⟨_, _, ⟨T1, L1, k1, n1⟩, -, X1, ⟨Lc1, hQ1, l1, y1, z1⟩, st1⟩ := X0.virtualBack hx (y := my_3) (z := my_3) hown (mvT hZ (wq hw 139 rfl)) (mvT hZ (wq hw 140 rfl)) (notFace_of_selects (args := #[]) (mvT hZ (wq hw 142 rfl))) (mvT hZ (wq hw 142 rfl)) (mvT hZ (wq hw 141 rfl)) (by decide) (backOf (W := 0) (rc17_name l Z a0 hw [] cs aE hS k pB L pA sa mB E sb ce h0 n0 O0 gk gL gE KN3 KN1 KN2 EpB FpB EL FL2 FL1 EmB FmB VE OE hq) hZ (wq hw 143 rfl) (wq hw 33 rfl) (by decide) (by decide)) q1a q1c (g := (mkF m 31 #[.val (.ref k), .val (.int (1 : Int32)), .val (.ref pA), .val (.ref pB), .val (.long sa), .second, .val (.long sb), .second, .val (.int (0 : Int32)), .val (.int (3 : Int32))] [(.ref pB), (.ref k)])) rfl (by rw [hml]; rfl) (Steps.refl _) (argsL := [(.ref pB)]) (rest := []) (lenOf pd_2 rfl) rfl (by show 2 * 0 + _ ≤ _; exact Nat.le_of_eq rfl) (hb hby d_method_3_31) (fun _ _ => ⟨rfl, e0, (by decide : 0 + 0 ≤ _), (by decide : 0 + 0 ≤ _)⟩)
  dsimp only [Pt.U, Pt.locs, Pt.cells, Pt.slots] at X1 l1 y1 z1 st1 hQ1
  have X1 := own_to X1 l1 y1 z1
  obtain ⟨rfl, N1q, K1, q1_0, q1_1⟩ := hQ1
  have N1 := Fr.app N0 N1q
  have O2 : Old Z n0 T1.heap := Old.keep O0 K1 (allS gE all0)
  have K3 : Keep h0 T1.heap [k, L, E] := (Keep.refl h0 [k, L, E]).trans K1 (allS (Or.inl (List.mem_of_getElem? (i := 2) rfl)) all0)
  have t4 : Exa Z T1.heap k nKnownO_3 := (Ek.keep K1)
  have t5 : Exa Z T1.heap pA nPredec_4 := (EpA.keep K1)
  have ne6 : pA ≠ E := Exa.neArv EpA VE (wq hw 62 rfl)
  have t7 : Fld Z T1.heap pA nPredec_4 "id" nMessag_5 (.ref mA) := (FpA.keep K1 (ninS ne6 nin0))
  have t8 : Exa Z T1.heap mA nMessag_6 := (EmA.keep K1)
  have ne9 : mA ≠ E := Exa.neArv EmA VE (wq hw 65 rfl)
  have t10 : Fld Z T1.heap mA nMessag_6 "seq" "J" (.long sa) := (FmA.keep K1 (ninS ne9 nin0))
  have t11 : Exa Z T1.heap pB nPredec_4 := (EpB.keep K1)
  have ne12 : pB ≠ E := Exa.neArv EpB VE (wq hw 62 rfl)
  have t13 : Fld Z T1.heap pB nPredec_4 "id" nMessag_5 (.ref mB) := (FpB.keep K1 (ninS ne12 nin0))
  have t14 : Exa Z T1.heap mB nMessag_6 := (EmB.keep K1)
  have ne15 : mB ≠ E := Exa.neArv EmB VE (wq hw 65 rfl)
  have t16 : Fld Z T1.heap mB nMessag_6 "seq" "J" (.long sb) := (FmB.keep K1 (ninS ne15 nin0))
  have ne17 : k ≠ E := Exa.neArv Ek VE (wq hw 32 rfl)
  have t18 : Fld Z T1.heap k nKnownO_3 "named" nPredec_7 (.ref pA) := (KN1.keep K1 (ninS ne17 nin0))
  have t19 : Fld Z T1.heap k nKnownO_3 "namedSeq" "J" (.long sa) := (KN2.keep K1 (ninS ne17 nin0))
  have t20 : Fld Z T1.heap k nKnownO_3 "alsoNamed" nList_8 (.ref L) := (KN3.keep K1 (ninS ne17 nin0))
  have t21 : Exa Z T1.heap L nArrayL_9 := (EL.keep K1)
  have ne22 : L ≠ E := Exa.neArv EL VE (wq hw 159 rfl)
  have t23 : Fld Z T1.heap L nArrayL_9 "size" "I" (.int (1 : Int32)) := (FL1.keep K1 (ninS ne22 nin0))
  have t24 : Fld Z T1.heap L nArrayL_9 "elementData" nObject_10 (.ref E) := (FL2.keep K1 (ninS ne22 nin0))
  have t25 : Fld Z T1.heap L nAbstra_11 "modCount" "I" (.int mc) := (FL3.keep K1 (ninS ne22 nin0))
  obtain ⟨fs, hr, hrun, hended, hW, hsame⟩ := X1.leave (v := (some (.int (3 : Int32)))) (fun h => by rw [Bd.returns] at h; cases h)
  refine ⟨_, _, pre0 _ ?_, hrun, hended, _, _, rfl, ?_, ⟨_, rfl⟩, hW, hsame.mono (by decide) (by decide)⟩
  · refine XS.iloadN X0.here hx rfl (hb hby d_method_3_0) rfl ?_
    refine XS.ifYes X0.here hx rfl (pc0 := 1) (pc' := 24) rfl (hb hby d_method_3_1) rfl ((if0 _ _).trans (feq (by decide : ¬ ((1 : Int32) = (0 : Int32)))).2) (by decide) (by decide) ?_
    refine XS.iloadN X0.here hx rfl (hb hby d_method_3_24) rfl ?_
    refine XS.iconst X0.here hx rfl (hb hby d_method_3_25) ?_
    refine XS.icmpNo X0.here hx rfl (hb hby d_method_3_26) rfl (teq (by decide : (1 : Int32) = (1 : Int32))).2 ?_
    refine XS.aloadN X0.here hx rfl (hb hby d_method_3_29) rfl rfl ?_
    refine XS.aloadN X0.here hx rfl (hb hby d_method_3_30) rfl rfl ?_
    refine st1.trans ?_
    refine XS.pop X1.here hx rfl (hb hby d_method_3_34) rfl rfl ?_
    refine XS.iload X1.here hx rfl (hb hby d_method_3_35) rfl ?_
    refine XS.iload X1.here hx rfl (hb hby d_method_3_37) rfl ?_
    refine XS.ifYes X1.here hx rfl (pc0 := 39) (pc' := 46) rfl (hb hby d_method_3_39) rfl ((if0 _ _).trans (teq (by decide : (0 : Int32) = (0 : Int32))).1) (by decide) (by decide) ?_
    refine XS.iconst X1.here hx rfl (hb hby d_method_3_46) ?_
    refine XS.ior X1.here hx rfl (hb hby d_method_3_47) rfl ?_
    show Steps p.tables e below (T1.setTop (mkF m 48 #[.val (.ref k), .val (.int (1 : Int32)), .val (.ref pA), .val (.ref pB), .val (.long sa), .second, .val (.long sb), .second, .val (.int (0 : Int32)), .val (.int (3 : Int32))] [(.int (3 : Int32))])) _
    exact retI X1 hx Bd.returns (hb hby d_method_3_48) hr
  · show QSN Z k pA mA sa pB mB sb h0 n0 _ T1.heap _
    exact ⟨_, rfl, N1, K3.1, O2, ⟨t4, gk, t5, t7, t8, t10, t11, t13, t14, t16⟩, Or.inr (Or.inr (Or.inr (Or.inl ⟨rfl, ⟨L, E, ce, _, t18, t19, t20, t21, t23, t24, t25, q1_0, q1_1, gL, gE⟩⟩)))⟩
def Q_rc26_fastRemove (Z : State) (aE : Addr) (a1 : Addr) (a2 : Addr) (i3 : Int32) (cid4 : ClassId) (a5 : Addr) (h0 : Heap) (n0 : Nat) (v : Option Value) (h : Heap) (L : List Loc) : Prop := v = none ∧ Fr n0 L ∧ Keep h0 h [a1, a2] ∧ Exa Z h a1 nArrayL_9 ∧ Fld Z h a1 nArrayL_9 "elementData" nObject_10 (.ref a2) ∧ Fld Z h a1 nAbstra_11 "modCount" "I" (.int (i3 + (1 : Int32))) ∧ Fld Z h a1 nArrayL_9 "size" "I" (.int (0 : Int32)) ∧ Arv Z h a2 cid4 (.object nObject_12) (1 : Int32) [.null] .null ∧ Ovr Z cid4 nObject_12
set_option maxRecDepth 65536 in
set_option maxHeartbeats 40000000 in
theorem rc26_fastRemove (l : Launch) (Z : State) (a0 : Array Value) (hw : ∀ d ∈ tables_1, d.before a0 Z = true) (ws : List Jvm.Cond) (cs : Int32) (aE : Addr) (hS : SB Z cs aE) (a1 : Addr) (a2 : Addr) (i3 : Int32) (cid4 : ClassId) (a5 : Addr) (h0 : Heap) (n0 : Nat) (O0 : Old Z n0 h0) (g_a1 : n0 ≤ a1) (g_a2 : n0 ≤ a2) (E_a1 : Exa Z h0 a1 nArrayL_9) (F_a1_elementData : Fld Z h0 a1 nArrayL_9 "elementData" nObject_10 (.ref a2)) (F_a1_modCount : Fld Z h0 a1 nAbstra_11 "modCount" "I" (.int i3)) (F_a1_size : Fld Z h0 a1 nArrayL_9 "size" "I" (.int (1 : Int32))) (V_a2 : Arv Z h0 a2 cid4 (.object nObject_12) (1 : Int32) [(.ref a5)] .null) (Ov_a2 : Ovr Z cid4 nObject_12) :
    Met l my_21 jdk_38_method_39_code 4 none ws ({ frames := 0, cells := 0, slots := 0, locals := 0 } : Room) #[(.ref a1), (.ref a2), (.int (0 : Int32))] Z h0 (Q_rc26_fastRemove Z aE a1 a2 i3 cid4 a5 h0 n0) := by
  refine MetFree.of_bodySF (plainFor_of_name pn_6) hisR ?_
  intro p e s m args below meth c s₁ Bd hml0 hP hK
  obtain ⟨rfl, hZ, hh⟩ := hP
  have hx := Bd.exec
  have hby := Bd.bytes
  have hml : c.maxLocals = 4 := hml0
  have hown : s.vm.findClass nArrayL_9 = some m.cls := findClass_of_methodNamed Bd.named
  have hnm := (name_of_methodNamed Bd.named Bd.method).1
  have X0 : Stand p l e ({ frames := 0, cells := 0, slots := 0, locals := 0 } : Room) s m #[(.ref a1), (.ref a2), (.int (0 : Int32))] below meth c s₁ [] 0 0 := Stand.of_body Bd
  have e0 : s₁.heap = h0 := by rw [← hh, Bd.state]; rfl
  have N0 := Fr.nil n0
  obtain ⟨f₀, hf₀⟩ : ∃ f, f = entryFrame m #[(.ref a1), (.ref a2), (.int (0 : Int32))] 4 := ⟨_, rfl⟩
  rw [← hf₀]
  have pre0 : Go p e below s₁ f₀ s₁ (mkF m 0 #[.val (.ref a1), .val (.ref a2), .val (.int (0 : Int32)), .unset] []) := fun t kk => castTop (hf₀.trans (ef_rc26_fastRemove m (a1) (a2) ((0 : Int32)))) kk
  obtain ⟨T1, X1, e1, st1⟩ := getF X0 hx hZ hown (host := "") (Or.inl (wq hw 202 rfl)) (Via.of (wq hw 203 rfl)) e0 F_a1_modCount (g := (mkF m 2 #[.val (.ref a1), .val (.ref a2), .val (.int (0 : Int32)), .unset] [(.ref a1), (.ref a1)])) rfl rfl (hb hby d_jdk_38_method_39_2)
  obtain ⟨T2, h2, X2, e2, W2, st2⟩ := putF X1 hx hZ hown (host := "") (Or.inl (wq hw 202 rfl)) (Via.of (wq hw 203 rfl)) e1 F_a1_modCount E_a1 (Or.inl (wq hw 178 rfl)) (wq hw 159 rfl) (ty := .int) (by decide) rfl rfl (g := (mkF m 7 #[.val (.ref a1), .val (.ref a2), .val (.int (0 : Int32)), .unset] [(.int (i3 + (1 : Int32))), (.ref a1)])) rfl rfl (hb hby d_jdk_38_method_39_7)
  have f3 : Fld Z h2 a1 nAbstra_11 "modCount" "I" (.int (i3 + (1 : Int32))) := F_a1_modCount.same W2
  have N2 := Fr.snoc X2 N0 g_a1
  have O4 : Old Z n0 h2 := Old.wr O0 W2 g_a1
  have K5 : Keep h0 h2 [a1, a2] := (Keep.refl h0 [a1, a2]).wr W2 (Or.inl (List.mem_of_getElem? (i := 0) rfl))
  have t6 : Fld Z h2 a1 nArrayL_9 "size" "I" (.int (1 : Int32)) := (F_a1_size.other W2 (Or.inr (slot_ne (Or.inl (wq hw 193 rfl)) (Or.inl (wq hw 178 rfl)) (by decide) (t := .int) (t' := .int) (by decide) (by decide))))
  obtain ⟨T7, X7, e7, st7⟩ := getF X2 hx hZ hown (host := "") (Or.inl (wq hw 192 rfl)) Via.refl e2 t6 (g := (mkF m 11 #[.val (.ref a1), .val (.ref a2), .val (.int (0 : Int32)), .unset] [(.ref a1)])) rfl rfl (hb hby d_jdk_38_method_39_11)
  have t8 : Exa Z h2 a1 nArrayL_9 := (E_a1.wr W2)
  obtain ⟨T9, h9, X9, e9, W9, st9⟩ := putF X7 hx hZ hown (host := "") (Or.inl (wq hw 192 rfl)) Via.refl e7 t6 t8 (Or.inl (wq hw 193 rfl)) (wq hw 159 rfl) (ty := .int) (by decide) rfl rfl (g := (mkF m 38 #[.val (.ref a1), .val (.ref a2), .val (.int (0 : Int32)), .val (.int (0 : Int32))] [(.int (0 : Int32)), (.ref a1), (.int (0 : Int32)), (.ref a2)])) rfl rfl (hb hby d_jdk_38_method_39_38)
  have f10 : Fld Z h9 a1 nArrayL_9 "size" "I" (.int (0 : Int32)) := t6.same W9
  have N9 := Fr.snoc X9 N2 g_a1
  have O11 : Old Z n0 h9 := Old.wr O4 W9 g_a1
  have K12 : Keep h0 h9 [a1, a2] := K5.wr W9 (Or.inl (List.mem_of_getElem? (i := 0) rfl))
  have ne13 : a2 ≠ a1 := Ne.symm (Exa.neArv E_a1 V_a2 (wq hw 159 rfl))
  have t14 : Arv Z h9 a2 cid4 (.object nObject_12) (1 : Int32) [(.ref a5)] .null := ((V_a2.other W2 ne13).other W9 ne13)
  obtain ⟨c15, Ar15, q15, S15, M15, Hh15, G15⟩ := (id t14)
  have hin15 : ¬ ((0 : Int32) < 0 ∨ c15.slots.size ≤ ((0 : Int32)).toNatClampNeg) := inb_of S15 ⟨by decide, by decide⟩
  obtain ⟨T16, h16, X16, e16, W16, st16⟩ := stR X9 hx hZ e9 Ar15 (j := (0 : Int32)) hin15 rfl (Or.inl rfl) (g := (mkF m 42 #[.val (.ref a1), .val (.ref a2), .val (.int (0 : Int32)), .val (.int (0 : Int32))] [.null, (.int (0 : Int32)), (.ref a2)])) rfl rfl (hb hby d_jdk_38_method_39_42)
  have v17 : Arv Z h16 a2 cid4 (.object nObject_12) (1 : Int32) [.null] .null := Arv.set Ar15 q15 S15 M15 Hh15 G15 rfl W16 0 rfl (Nat.le_of_ble_eq_true rfl)
  have N16 := Fr.snoc X16 N9 g_a2
  have O18 : Old Z n0 h16 := Old.wr O11 W16 g_a2
  have K19 : Keep h0 h16 [a1, a2] := K12.wr W16 (Or.inl (List.mem_of_getElem? (i := 1) rfl))
  have t20 : Exa Z h16 a1 nArrayL_9 := ((t8.wr W9).wr W16)
  have t21 : Fld Z h16 a1 nArrayL_9 "elementData" nObject_10 (.ref a2) := (((F_a1_elementData.other W2 (Or.inr (slot_ne (Or.inl (wq hw 182 rfl)) (Or.inl (wq hw 178 rfl)) (by decide) (t := (.array (.object nObject_12))) (t' := .int) (by decide) (by decide)))).other W9 (Or.inr (slot_ne (Or.inl (wq hw 182 rfl)) (Or.inl (wq hw 193 rfl)) (by decide) (t := (.array (.object nObject_12))) (t' := .int) (by decide) (by decide)))).other W16 (Or.inl (Ne.symm ne13)))
  have t22 : Fld Z h16 a1 nAbstra_11 "modCount" "I" (.int (i3 + (1 : Int32))) := ((f3.other W9 (Or.inr (slot_ne (Or.inl (wq hw 178 rfl)) (Or.inl (wq hw 193 rfl)) (by decide) (t := .int) (t' := .int) (by decide) (by decide)))).other W16 (Or.inl (Ne.symm ne13)))
  have t23 : Fld Z h16 a1 nArrayL_9 "size" "I" (.int (0 : Int32)) := (f10.other W16 (Or.inl (Ne.symm ne13)))
  obtain ⟨fs, hr, hrun, hended, hW, hsame⟩ := X16.leave (v := none) (fun _ => rfl)
  refine ⟨_, _, pre0 _ ?_, hrun, hended, _, _, rfl, ?_, ⟨_, rfl⟩, hW, hsame.mono (by decide) (by decide)⟩
  · refine XS.aloadN X0.here hx rfl (hb hby d_jdk_38_method_39_0) rfl rfl ?_
    refine XS.dup X0.here hx rfl (hb hby d_jdk_38_method_39_1) rfl rfl ?_
    refine st1 _ ?_
    refine XS.iconst X1.here hx rfl (hb hby d_jdk_38_method_39_5) ?_
    refine XS.iadd X1.here hx rfl (hb hby d_jdk_38_method_39_6) rfl ?_
    refine st2 _ ?_
    refine XS.aloadN X2.here hx rfl (hb hby d_jdk_38_method_39_10) rfl rfl ?_
    refine st7 _ ?_
    refine XS.iconst X7.here hx rfl (hb hby d_jdk_38_method_39_14) ?_
    refine XS.isub X7.here hx rfl (hb hby d_jdk_38_method_39_15) rfl ?_
    show Steps p.tables e below (T7.setTop (mkF m 16 #[.val (.ref a1), .val (.ref a2), .val (.int (0 : Int32)), .unset] [(.int (0 : Int32))])) _
    refine XS.dup X7.here hx rfl (hb hby d_jdk_38_method_39_16) rfl rfl ?_
    refine XS.istoreN X7.here hx rfl (hb hby d_jdk_38_method_39_17) rfl (l' := #[.val (.ref a1), .val (.ref a2), .val (.int (0 : Int32)), .val (.int (0 : Int32))]) rfl ?_
    refine XS.iloadN X7.here hx rfl (hb hby d_jdk_38_method_39_18) rfl ?_
    refine XS.icmpYes X7.here hx rfl (pc0 := 19) (pc' := 34) rfl (hb hby d_jdk_38_method_39_19) rfl (flt (by decide : ¬ ((0 : Int32) < (0 : Int32)))).2.2.2 (by decide) (by decide) ?_
    refine XS.aloadN X7.here hx rfl (hb hby d_jdk_38_method_39_34) rfl rfl ?_
    refine XS.aloadN X7.here hx rfl (hb hby d_jdk_38_method_39_35) rfl rfl ?_
    refine XS.iloadN X7.here hx rfl (hb hby d_jdk_38_method_39_36) rfl ?_
    refine XS.dupX1 X7.here hx rfl (hb hby d_jdk_38_method_39_37) rfl rfl rfl ?_
    refine st9 _ ?_
    refine XS.aconstNull X9.here hx rfl (hb hby d_jdk_38_method_39_41) ?_
    refine st16 _ ?_
    exact X16.returnOut hx Bd.returns (hb hby d_jdk_38_method_39_43) hr
  · show Q_rc26_fastRemove Z aE a1 a2 i3 cid4 a5 h0 n0 _ T16.heap _
    rw [e16]
    exact ⟨rfl, N16, K19, t20, t21, t22, t23, v17, Ov_a2⟩
def Q_rc25_remove (Z : State) (aE : Addr) (a1 : Addr) (a2 : Addr) (i3 : Int32) (cid4 : ClassId) (a5 : Addr) (h0 : Heap) (n0 : Nat) (v : Option Value) (h : Heap) (L : List Loc) : Prop := v = some (.ref a5) ∧ Fr n0 L ∧ Keep h0 h [a2, a1] ∧ Arv Z h a2 cid4 (.object nObject_12) (1 : Int32) [.null] .null ∧ Ovr Z cid4 nObject_12 ∧ Exa Z h a1 nArrayL_9 ∧ Fld Z h a1 nArrayL_9 "elementData" nObject_10 (.ref a2) ∧ Fld Z h a1 nAbstra_11 "modCount" "I" (.int (i3 + (1 : Int32))) ∧ Fld Z h a1 nArrayL_9 "size" "I" (.int (0 : Int32))
set_option maxRecDepth 65536 in
set_option maxHeartbeats 40000000 in
theorem rc25_remove (l : Launch) (Z : State) (a0 : Array Value) (hw : ∀ d ∈ tables_1, d.before a0 Z = true) (ws : List Jvm.Cond) (cs : Int32) (aE : Addr) (hS : SB Z cs aE) (a1 : Addr) (a2 : Addr) (i3 : Int32) (cid4 : ClassId) (a5 : Addr) (h0 : Heap) (n0 : Nat) (O0 : Old Z n0 h0) (g_a1 : n0 ≤ a1) (g_a2 : n0 ≤ a2) (E_a1 : Exa Z h0 a1 nArrayL_9) (F_a1_elementData : Fld Z h0 a1 nArrayL_9 "elementData" nObject_10 (.ref a2)) (F_a1_modCount : Fld Z h0 a1 nAbstra_11 "modCount" "I" (.int i3)) (F_a1_size : Fld Z h0 a1 nArrayL_9 "size" "I" (.int (1 : Int32))) (V_a2 : Arv Z h0 a2 cid4 (.object nObject_12) (1 : Int32) [(.ref a5)] .null) (Ov_a2 : Ovr Z cid4 nObject_12) :
    Met l my_22 jdk_38_method_29_code 4 (some (.object nObject_12)) ws ({ frames := 2, cells := 0, slots := 0, locals := 27 } : Room) #[(.ref a1), (.int (0 : Int32))] Z h0 (Q_rc25_remove Z aE a1 a2 i3 cid4 a5 h0 n0) := by
  refine MetFree.of_bodySF (plainFor_of_name pn_6) hisR ?_
  intro p e s m args below meth c s₁ Bd hml0 hP hK
  obtain ⟨rfl, hZ, hh⟩ := hP
  have hx := Bd.exec
  have hby := Bd.bytes
  have hml : c.maxLocals = 4 := hml0
  have hown : s.vm.findClass nArrayL_9 = some m.cls := findClass_of_methodNamed Bd.named
  have hnm := (name_of_methodNamed Bd.named Bd.method).1
  have X0 : Stand p l e ({ frames := 2, cells := 0, slots := 0, locals := 27 } : Room) s m #[(.ref a1), (.int (0 : Int32))] below meth c s₁ [] 0 0 := Stand.of_body Bd
  have e0 : s₁.heap = h0 := by rw [← hh, Bd.state]; rfl
  have N0 := Fr.nil n0
  obtain ⟨f₀, hf₀⟩ : ∃ f, f = entryFrame m #[(.ref a1), (.int (0 : Int32))] 4 := ⟨_, rfl⟩
  rw [← hf₀]
  have pre0 : Go p e below s₁ f₀ s₁ (mkF m 0 #[.val (.ref a1), .val (.int (0 : Int32)), .unset, .unset] []) := fun t kk => castTop (hf₀.trans (ef_rc25_remove m (a1) ((0 : Int32)))) kk
  obtain ⟨T1, X1, e1, st1⟩ := getF X0 hx hZ hown (host := "") (Or.inl (wq hw 192 rfl)) Via.refl e0 F_a1_size (g := (mkF m 2 #[.val (.ref a1), .val (.int (0 : Int32)), .unset, .unset] [(.ref a1), (.int (0 : Int32))])) rfl rfl (hb hby d_jdk_38_method_29_2)
  obtain ⟨_, _, ⟨T2, L2, k2, n2⟩, -, X2, ⟨Lc2, hQ2, l2, y2, z2⟩, st2⟩ := Jvm.LawKit.callS X1 hx (y := my_15) hown (mvT hZ (wq hw 218 rfl)) (mvT hZ (wq hw 219 rfl)) (mvT hZ (wq hw 81 rfl)) (mvT hZ (wq hw 220 rfl)) (by decide) (backOf (W := 0) (rc20_checkIndex l Z a0 hw [] cs aE hS  h0 n0 O0 ) hZ (wq hw 220 rfl) (wq hw 81 rfl) (by decide) (by decide)) (g := (mkF m 5 #[.val (.ref a1), .val (.int (0 : Int32)), .unset, .unset] [(.int (1 : Int32)), (.int (0 : Int32))])) rfl (by rw [hml]; rfl) (argsL := [(.int (0 : Int32)), (.int (1 : Int32))]) (rest := []) (lenOf pd_10 rfl) rfl (by show 2 * 0 + _ ≤ _; exact Nat.le_of_eq rfl) (hb hby d_jdk_38_method_29_5) (fun _ _ => ⟨rfl, e1, (by decide : 0 + 0 ≤ _), (by decide : 0 + 0 ≤ _)⟩)
  dsimp only [Pt.U, Pt.locs, Pt.cells, Pt.slots] at X2 l2 y2 z2 st2 hQ2
  have X2 := own_to X2 l2 y2 z2
  obtain ⟨rfl, N2q, e2⟩ := hQ2
  have N2 := Fr.app N0 N2q
  obtain ⟨T3, X3, e3, st3⟩ := getF X2 hx hZ hown (host := "") (Or.inl (wq hw 181 rfl)) Via.refl e2 F_a1_elementData (g := (mkF m 10 #[.val (.ref a1), .val (.int (0 : Int32)), .unset, .unset] [(.ref a1)])) rfl rfl (hb hby d_jdk_38_method_29_10)
  obtain ⟨c4, Ar4, q4, S4, M4, Hh4, G4⟩ := (id V_a2)
  have hin4 : ¬ ((0 : Int32) < 0 ∨ c4.slots.size ≤ ((0 : Int32)).toNatClampNeg) := inb_of S4 ⟨by decide, by decide⟩
  have hat4 : c4.slots[((0 : Int32)).toNatClampNeg]? = some (.ref a5) := Hh4.at hin4 rfl
  obtain ⟨cq5, q5, q5'⟩ := (E_a1).cell
  obtain ⟨_, _, ⟨T5, L5, k5, n5⟩, -, X5, ⟨Lc5, hQ5, l5, y5, z5⟩, st5⟩ := X3.privateBack hx (y := my_21) hown (mvT hZ (wq hw 248 rfl)) (mvT hZ (wq hw 249 rfl)) (mvT hZ (wq hw 251 rfl)) (Cond.privateMethod_at (mvP hZ (wq hw 250 rfl) (args := #[]))) (mvT hZ (wq hw 252 rfl)) (by decide) (backOf (W := 0) (rc26_fastRemove l Z a0 hw [] cs aE hS a1 a2 i3 cid4 a5 h0 n0 O0 g_a1 g_a2 E_a1 F_a1_elementData F_a1_modCount F_a1_size V_a2 Ov_a2) hZ (wq hw 252 rfl) (wq hw 160 rfl) (by decide) (by decide)) (g := (mkF m 21 #[.val (.ref a1), .val (.int (0 : Int32)), .val (.ref a2), .val (.ref a5)] [(.int (0 : Int32)), (.ref a2), (.ref a1)])) rfl (by rw [hml]; rfl) (Steps.refl _) (a := a1) (by rw [e3]; exact q5) q5' (argsL := [(.ref a2), (.int (0 : Int32))]) (rest := []) (lenOf pd_13 rfl) rfl (by show 2 * 0 + _ ≤ _; exact Nat.le_of_eq rfl) (hb hby d_jdk_38_method_29_21) (fun _ _ => ⟨rfl, e3, (by decide : 0 + 0 ≤ _), (by decide : 0 + 0 ≤ _)⟩)
  dsimp only [Pt.U, Pt.locs, Pt.cells, Pt.slots] at X5 l5 y5 z5 st5 hQ5
  have X5 := own_to X5 l5 y5 z5
  obtain ⟨rfl, N5q, K5, q5_0, q5_1, q5_2, q5_3, q5_4, q5_5⟩ := hQ5
  have N5 := Fr.app N2 N5q
  have O6 : Old Z n0 T5.heap := Old.keep O0 K5 (allS g_a1 (allS g_a2 all0))
  have K7 : Keep h0 T5.heap [a2, a1] := (Keep.refl h0 [a2, a1]).trans K5 (allS (Or.inl (List.mem_of_getElem? (i := 1) rfl)) (allS (Or.inl (List.mem_of_getElem? (i := 0) rfl)) all0))
  obtain ⟨fs, hr, hrun, hended, hW, hsame⟩ := X5.leave (v := (some (.ref a5))) (fun h => by rw [Bd.returns] at h; cases h)
  refine ⟨_, _, pre0 _ ?_, hrun, hended, _, _, rfl, ?_, ⟨_, rfl⟩, hW, hsame.mono (by decide) (by decide)⟩
  · refine XS.iloadN X0.here hx rfl (hb hby d_jdk_38_method_29_0) rfl ?_
    refine XS.aloadN X0.here hx rfl (hb hby d_jdk_38_method_29_1) rfl rfl ?_
    refine st1 _ ?_
    refine st2 _ ?_
    refine XS.pop X2.here hx rfl (hb hby d_jdk_38_method_29_8) rfl rfl ?_
    refine XS.aloadN X2.here hx rfl (hb hby d_jdk_38_method_29_9) rfl rfl ?_
    refine st3 _ ?_
    refine XS.astoreN X3.here hx rfl (hb hby d_jdk_38_method_29_13) rfl rfl (l' := #[.val (.ref a1), .val (.int (0 : Int32)), .val (.ref a2), .unset]) rfl ?_
    refine XS.aloadN X3.here hx rfl (hb hby d_jdk_38_method_29_14) rfl rfl ?_
    refine XS.iloadN X3.here hx rfl (hb hby d_jdk_38_method_29_15) rfl ?_
    refine X3.aaload hx (j := (0 : Int32)) (v := (.ref a5)) (by rw [e3]; exact Ar4.1) (State.isArrayOf_alike hZ.alike Ar4.2.1) rfl Ar4.2.2 hin4 hat4 (g := (mkF m 16 #[.val (.ref a1), .val (.int (0 : Int32)), .val (.ref a2), .unset] [(.int (0 : Int32)), (.ref a2)])) rfl rfl (hb hby d_jdk_38_method_29_16) _ ?_
    refine XS.astoreN X3.here hx rfl (hb hby d_jdk_38_method_29_17) rfl rfl (l' := #[.val (.ref a1), .val (.int (0 : Int32)), .val (.ref a2), .val (.ref a5)]) rfl ?_
    refine XS.aloadN X3.here hx rfl (hb hby d_jdk_38_method_29_18) rfl rfl ?_
    refine XS.aloadN X3.here hx rfl (hb hby d_jdk_38_method_29_19) rfl rfl ?_
    refine XS.iloadN X3.here hx rfl (hb hby d_jdk_38_method_29_20) rfl ?_
    refine st5.trans ?_
    refine XS.aloadN X5.here hx rfl (hb hby d_jdk_38_method_29_24) rfl rfl ?_
    exact retOut X5 hx Bd.returns rfl (Or.inr (Or.inr (Or.inr (Or.inr ⟨rfl, rfl, rfl⟩)))) (hb hby d_jdk_38_method_29_25) hr
  · show Q_rc25_remove Z aE a1 a2 i3 cid4 a5 h0 n0 _ T5.heap _
    exact ⟨rfl, N5, K7, q5_4, q5_5, q5_0, q5_1, q5_2, q5_3⟩
def Q_rc27_isEmpty (Z : State) (aE : Addr) (a1 : Addr) (h0 : Heap) (n0 : Nat) (v : Option Value) (h : Heap) (L : List Loc) : Prop := v = some (.int (1 : Int32)) ∧ Fr n0 L ∧ h = h0
set_option maxRecDepth 65536 in
set_option maxHeartbeats 40000000 in
theorem rc27_isEmpty (l : Launch) (Z : State) (a0 : Array Value) (hw : ∀ d ∈ tables_1, d.before a0 Z = true) (ws : List Jvm.Cond) (cs : Int32) (aE : Addr) (hS : SB Z cs aE) (a1 : Addr) (h0 : Heap) (n0 : Nat) (O0 : Old Z n0 h0) (g_a1 : n0 ≤ a1) (F_a1_size : Fld Z h0 a1 nArrayL_9 "size" "I" (.int (0 : Int32))) :
    Met l my_23 jdk_38_method_9_code 1 (some .boolean) ws ({ frames := 0, cells := 0, slots := 0, locals := 0 } : Room) #[(.ref a1)] Z h0 (Q_rc27_isEmpty Z aE a1 h0 n0) := by
  refine MetFree.of_bodySF (plainFor_of_name pn_6) hisR ?_
  intro p e s m args below meth c s₁ Bd hml0 hP hK
  obtain ⟨rfl, hZ, hh⟩ := hP
  have hx := Bd.exec
  have hby := Bd.bytes
  have hml : c.maxLocals = 1 := hml0
  have hown : s.vm.findClass nArrayL_9 = some m.cls := findClass_of_methodNamed Bd.named
  have hnm := (name_of_methodNamed Bd.named Bd.method).1
  have X0 : Stand p l e ({ frames := 0, cells := 0, slots := 0, locals := 0 } : Room) s m #[(.ref a1)] below meth c s₁ [] 0 0 := Stand.of_body Bd
  have e0 : s₁.heap = h0 := by rw [← hh, Bd.state]; rfl
  have N0 := Fr.nil n0
  obtain ⟨f₀, hf₀⟩ : ∃ f, f = entryFrame m #[(.ref a1)] 1 := ⟨_, rfl⟩
  rw [← hf₀]
  have pre0 : Go p e below s₁ f₀ s₁ (mkF m 0 #[.val (.ref a1)] []) := fun t kk => castTop (hf₀.trans (ef_rc27_isEmpty m (a1))) kk
  obtain ⟨T1, X1, e1, st1⟩ := getF X0 hx hZ hown (host := "") (Or.inl (wq hw 192 rfl)) Via.refl e0 F_a1_size (g := (mkF m 1 #[.val (.ref a1)] [(.ref a1)])) rfl rfl (hb hby d_jdk_38_method_9_1)
  obtain ⟨fs, hr, hrun, hended, hW, hsame⟩ := X1.leave (v := (some (.int (1 : Int32)))) (fun h => by rw [Bd.returns] at h; cases h)
  refine ⟨_, _, pre0 _ ?_, hrun, hended, _, _, rfl, ?_, ⟨_, rfl⟩, hW, hsame.mono (by decide) (by decide)⟩
  · refine XS.aloadN X0.here hx rfl (hb hby d_jdk_38_method_9_0) rfl rfl ?_
    refine st1 _ ?_
    refine XS.ifNo X1.here hx rfl (hb hby d_jdk_38_method_9_4) rfl ((if0 _ _).trans (teq (by decide : (0 : Int32) = (0 : Int32))).2) ?_
    refine XS.iconst X1.here hx rfl (hb hby d_jdk_38_method_9_7) ?_
    refine XS.goto X1.here hx rfl (pc0 := 8) (pc' := 12) rfl (hb hby d_jdk_38_method_9_8) (by decide) (by decide) ?_
    exact retN X1 hx (t := .boolean) Bd.returns (by simp) (hb hby d_jdk_38_method_9_12) hr
  · show Q_rc27_isEmpty Z aE a1 h0 n0 _ T1.heap _
    rw [e1]
    exact ⟨rfl, N0, rfl⟩
def Q_rc24_unname (Z : State) (aE : Addr) (a1 : Addr) (j2 : Int64) (a3 : Addr) (a4 : Addr) (a5 : Addr) (i6 : Int32) (cid8 : ClassId) (a9 : Addr) (a10 : Addr) (j11 : Int64) (h0 : Heap) (n0 : Nat) (v : Option Value) (h : Heap) (L : List Loc) : Prop := v = some (.ref a4) ∧ Fr n0 L ∧ Keep h0 h [a1, a3, a5] ∧ Exa Z h a1 nKnownO_3 ∧ Fld Z h a1 nKnownO_3 "alsoNamed" nList_8 .null ∧ Fld Z h a1 nKnownO_3 "named" nPredec_7 (.ref a9) ∧ Fld Z h a1 nKnownO_3 "namedSeq" "J" (.long j11) ∧ Exa Z h a3 nArrayL_9 ∧ Fld Z h a3 nArrayL_9 "elementData" nObject_10 (.ref a5) ∧ Fld Z h a3 nAbstra_11 "modCount" "I" (.int (i6 + (1 : Int32))) ∧ Fld Z h a3 nArrayL_9 "size" "I" (.int (0 : Int32)) ∧ Arv Z h a5 cid8 (.object nObject_12) (1 : Int32) [.null] .null ∧ Ovr Z cid8 nObject_12
set_option maxRecDepth 65536 in
set_option maxHeartbeats 40000000 in
theorem rc24_unname (l : Launch) (Z : State) (a0 : Array Value) (hw : ∀ d ∈ tables_1, d.before a0 Z = true) (ws : List Jvm.Cond) (cs : Int32) (aE : Addr) (hS : SB Z cs aE) (a1 : Addr) (j2 : Int64) (a3 : Addr) (a4 : Addr) (a5 : Addr) (i6 : Int32) (cid8 : ClassId) (a9 : Addr) (a10 : Addr) (j11 : Int64) (h0 : Heap) (n0 : Nat) (O0 : Old Z n0 h0) (g_a1 : n0 ≤ a1) (g_a3 : n0 ≤ a3) (g_a5 : n0 ≤ a5) (E_a1 : Exa Z h0 a1 nKnownO_3) (F_a1_alsoNamed : Fld Z h0 a1 nKnownO_3 "alsoNamed" nList_8 (.ref a3)) (F_a1_named : Fld Z h0 a1 nKnownO_3 "named" nPredec_7 (.ref a4)) (F_a1_namedSeq : Fld Z h0 a1 nKnownO_3 "namedSeq" "J" (.long j2)) (E_a3 : Exa Z h0 a3 nArrayL_9) (F_a3_elementData : Fld Z h0 a3 nArrayL_9 "elementData" nObject_10 (.ref a5)) (F_a3_modCount : Fld Z h0 a3 nAbstra_11 "modCount" "I" (.int i6)) (F_a3_size : Fld Z h0 a3 nArrayL_9 "size" "I" (.int (1 : Int32))) (V_a5 : Arv Z h0 a5 cid8 (.object nObject_12) (1 : Int32) [(.ref a9)] .null) (Ov_a5 : Ovr Z cid8 nObject_12) (E_a9 : Exa Z h0 a9 nPredec_4) (F_a9_id : Fld Z h0 a9 nPredec_4 "id" nMessag_5 (.ref a10)) (E_a10 : Exa Z h0 a10 nMessag_6) (F_a10_seq : Fld Z h0 a10 nMessag_6 "seq" "J" (.long j11)) :
    Met l my_5 prog_22_method_12_code 5 (some (.object nPredec_4)) ws ({ frames := 3, cells := 0, slots := 0, locals := 43 } : Room) #[(.ref a1), (.long j2)] Z h0 (Q_rc24_unname Z aE a1 j2 a3 a4 a5 i6 cid8 a9 a10 j11 h0 n0) := by
  refine MetFree.of_bodySF (plainFor_of_name pn_2) hisR ?_
  intro p e s m args below meth c s₁ Bd hml0 hP hK
  obtain ⟨rfl, hZ, hh⟩ := hP
  have hx := Bd.exec
  have hby := Bd.bytes
  have hml : c.maxLocals = 5 := hml0
  have hown : s.vm.findClass nKnownO_3 = some m.cls := findClass_of_methodNamed Bd.named
  have hnm := (name_of_methodNamed Bd.named Bd.method).1
  have X0 : Stand p l e ({ frames := 3, cells := 0, slots := 0, locals := 43 } : Room) s m #[(.ref a1), (.long j2)] below meth c s₁ [] 0 0 := Stand.of_body Bd
  have e0 : s₁.heap = h0 := by rw [← hh, Bd.state]; rfl
  have N0 := Fr.nil n0
  obtain ⟨f₀, hf₀⟩ : ∃ f, f = entryFrame m #[(.ref a1), (.long j2)] 5 := ⟨_, rfl⟩
  rw [← hf₀]
  have pre0 : Go p e below s₁ f₀ s₁ (mkF m 0 #[.val (.ref a1), .val (.long j2), .second, .unset, .unset] []) := fun t kk => castTop (hf₀.trans (ef_rc24_unname m (a1) (j2))) kk
  obtain ⟨T1, X1, e1, st1⟩ := getF X0 hx hZ hown (host := "") (Or.inl (wq hw 128 rfl)) Via.refl e0 F_a1_named (g := (mkF m 1 #[.val (.ref a1), .val (.long j2), .second, .unset, .unset] [(.ref a1)])) rfl rfl (hb hby d_prog_22_method_12_1)
  obtain ⟨T2, X2, e2, st2⟩ := getF X1 hx hZ hown (host := "") (Or.inl (wq hw 154 rfl)) Via.refl e1 F_a1_namedSeq (g := (mkF m 10 #[.val (.ref a1), .val (.long j2), .second, .unset, .unset] [(.ref a1)])) rfl rfl (hb hby d_prog_22_method_12_10)
  obtain ⟨T3, X3, e3, st3⟩ := getF X2 hx hZ hown (host := "") (Or.inl (wq hw 128 rfl)) Via.refl e2 F_a1_named (g := (mkF m 19 #[.val (.ref a1), .val (.long j2), .second, .unset, .unset] [(.ref a1)])) rfl rfl (hb hby d_prog_22_method_12_19)
  obtain ⟨T4, h4, X4, e4, W4, st4⟩ := putF X3 hx hZ hown (host := "") (Or.inl (wq hw 128 rfl)) Via.refl e3 F_a1_named E_a1 (Or.inl (wq hw 129 rfl)) (wq hw 32 rfl) (ty := (.object nPredec_4)) (by decide) rfl rfl (g := (mkF m 25 #[.val (.ref a1), .val (.long j2), .second, .val (.ref a4), .unset] [.null, (.ref a1)])) rfl rfl (hb hby d_prog_22_method_12_25)
  have f5 : Fld Z h4 a1 nKnownO_3 "named" nPredec_7 .null := F_a1_named.same W4
  have N4 := Fr.snoc X4 N0 g_a1
  have O6 : Old Z n0 h4 := Old.wr O0 W4 g_a1
  have K7 : Keep h0 h4 [a1, a3, a5] := (Keep.refl h0 [a1, a3, a5]).wr W4 (Or.inl (List.mem_of_getElem? (i := 0) rfl))
  have t8 : Fld Z h4 a1 nKnownO_3 "alsoNamed" nList_8 (.ref a3) := (F_a1_alsoNamed.other W4 (Or.inr (slot_ne (Or.inl (wq hw 157 rfl)) (Or.inl (wq hw 129 rfl)) (by decide) (t := (.object "java/util/List")) (t' := (.object nPredec_4)) (by decide) (by decide))))
  obtain ⟨T9, X9, e9, st9⟩ := getF X4 hx hZ hown (host := "") (Or.inl (wq hw 156 rfl)) Via.refl e4 t8 (g := (mkF m 29 #[.val (.ref a1), .val (.long j2), .second, .val (.ref a4), .unset] [(.ref a1)])) rfl rfl (hb hby d_prog_22_method_12_29)
  obtain ⟨T10, X10, e10, st10⟩ := getF X9 hx hZ hown (host := "") (Or.inl (wq hw 156 rfl)) Via.refl e9 t8 (g := (mkF m 37 #[.val (.ref a1), .val (.long j2), .second, .val (.ref a4), .unset] [(.ref a1), (.ref a1)])) rfl rfl (hb hby d_prog_22_method_12_37)
  obtain ⟨T11, X11, e11, st11⟩ := getF X10 hx hZ hown (host := "") (Or.inl (wq hw 156 rfl)) Via.refl e10 t8 (g := (mkF m 41 #[.val (.ref a1), .val (.long j2), .second, .val (.ref a4), .unset] [(.ref a1), (.ref a3), (.ref a1)])) rfl rfl (hb hby d_prog_22_method_12_41)
  have t12 : Exa Z h4 a3 nArrayL_9 := (E_a3.wr W4)
  have ne13 : a3 ≠ a1 := Exa.ne E_a3 E_a1 (by decide)
  have t14 : Fld Z h4 a3 nArrayL_9 "size" "I" (.int (1 : Int32)) := (F_a3_size.other W4 (Or.inl ne13))
  obtain ⟨cq15, kq15, q15a, q15b, q15c⟩ := isOf hZ e11 (t12)
  obtain ⟨_, _, ⟨T15, L15, k15, n15⟩, -, X15, ⟨Lc15, hQ15, l15, y15, z15⟩, st15⟩ := X11.interfaceBack hx (xi := my_12) (y := my_9) hown (mvT hZ (wq hw 183 rfl)) (mvT hZ (wq hw 184 rfl)) (mvT hZ (wq hw 185 rfl)) (mvT hZ (wq hw 186 rfl)) (mvT hZ (wq hw 187 rfl)) (mvT hZ (wq hw 188 rfl)) (mvT hZ (wq hw 189 rfl)) (mvT hZ (wq hw 190 rfl)) (by decide) (backOf (W := 2) (rc18_size l Z a0 hw [] cs aE hS a3 h4 n0 O6 g_a3 t14) hZ (wq hw 191 rfl) (wq hw 160 rfl) (by decide) (by decide)) q15a q15b q15c (g := (mkF m 44 #[.val (.ref a1), .val (.long j2), .second, .val (.ref a4), .unset] [(.ref a3), (.ref a3), (.ref a1)])) rfl (by rw [hml]; rfl) (Steps.refl _) (argsL := []) (rest := [(.ref a3), (.ref a1)]) (lenOf pd_6 rfl) rfl (by show 2 * 0 + _ ≤ _; exact Nat.le_of_eq rfl) (hb hby d_prog_22_method_12_44) (fun _ _ => ⟨rfl, e11, (by decide : 0 + 0 ≤ _), (by decide : 0 + 0 ≤ _)⟩)
  dsimp only [Pt.U, Pt.locs, Pt.cells, Pt.slots] at X15 l15 y15 z15 st15 hQ15
  have X15 := own_to X15 l15 y15 z15
  obtain ⟨rfl, N15q, e15⟩ := hQ15
  have N15 := Fr.app N4 N15q
  have t16 : Fld Z h4 a3 nArrayL_9 "elementData" nObject_10 (.ref a5) := (F_a3_elementData.other W4 (Or.inl ne13))
  have t17 : Fld Z h4 a3 nAbstra_11 "modCount" "I" (.int i6) := (F_a3_modCount.other W4 (Or.inl ne13))
  have ne18 : a5 ≠ a1 := Ne.symm (Exa.neArv E_a1 V_a5 (wq hw 32 rfl))
  have t19 : Arv Z h4 a5 cid8 (.object nObject_12) (1 : Int32) [(.ref a9)] .null := (V_a5.other W4 ne18)
  obtain ⟨cq20, kq20, q20a, q20b, q20c⟩ := isOf hZ e15 (t12)
  obtain ⟨_, _, ⟨T20, L20, k20, n20⟩, -, X20, ⟨Lc20, hQ20, l20, y20, z20⟩, st20⟩ := X15.interfaceBack hx (xi := my_24) (y := my_22) hown (mvT hZ (wq hw 240 rfl)) (mvT hZ (wq hw 241 rfl)) (mvT hZ (wq hw 242 rfl)) (mvT hZ (wq hw 243 rfl)) (mvT hZ (wq hw 244 rfl)) (mvT hZ (wq hw 245 rfl)) (mvT hZ (wq hw 246 rfl)) (mvT hZ (wq hw 190 rfl)) (by decide) (backOf (W := 1) (rc25_remove l Z a0 hw [] cs aE hS a3 a5 i6 cid8 a9 h4 n0 O6 g_a3 g_a5 t12 t16 t17 t14 t19 Ov_a5) hZ (wq hw 247 rfl) (wq hw 160 rfl) (by decide) (by decide)) q20a q20b q20c (g := (mkF m 51 #[.val (.ref a1), .val (.long j2), .second, .val (.ref a4), .unset] [(.int (0 : Int32)), (.ref a3), (.ref a1)])) rfl (by rw [hml]; rfl) (Steps.refl _) (argsL := [(.int (0 : Int32))]) (rest := [(.ref a1)]) (lenOf pd_11 rfl) rfl (by show 2 * 0 + _ ≤ _; exact Nat.le_of_eq rfl) (hb hby d_prog_22_method_12_51) (fun _ _ => ⟨rfl, e15, (by decide : 0 + 0 ≤ _), (by decide : 0 + 0 ≤ _)⟩)
  dsimp only [Pt.U, Pt.locs, Pt.cells, Pt.slots] at X20 l20 y20 z20 st20 hQ20
  have X20 := own_to X20 l20 y20 z20
  obtain ⟨rfl, N20q, K20, q20_0, q20_1, q20_2, q20_3, q20_4, q20_5⟩ := hQ20
  have N20 := Fr.app N15 N20q
  have O21 : Old Z n0 T20.heap := Old.keep O6 K20 (allS g_a5 (allS g_a3 all0))
  have K22 : Keep h0 T20.heap [a1, a3, a5] := K7.trans K20 (allS (Or.inl (List.mem_of_getElem? (i := 2) rfl)) (allS (Or.inl (List.mem_of_getElem? (i := 1) rfl)) all0))
  have t23 : Exa Z T20.heap a9 nPredec_4 := ((E_a9.wr W4).keep K20)
  obtain ⟨T24, X24, e24, st24⟩ := castY X20 hx hZ hown (wq hw 230 rfl) rfl (Ins.self t23) (g := (mkF m 56 #[.val (.ref a1), .val (.long j2), .second, .val (.ref a4), .unset] [(.ref a9), (.ref a1)])) rfl rfl (hb hby d_prog_22_method_12_56)
  have t25 : Exa Z T20.heap a1 nKnownO_3 := ((E_a1.wr W4).keep K20)
  have t26 : Fld Z T20.heap a1 nKnownO_3 "named" nPredec_7 .null := (f5.keep K20 (ninS (Ne.symm ne18) (ninS (Ne.symm ne13) nin0)))
  obtain ⟨T27, h27, X27, e27, W27, st27⟩ := putF X24 hx hZ hown (host := "") (Or.inl (wq hw 128 rfl)) Via.refl e24 t26 t25 (Or.inl (wq hw 129 rfl)) (wq hw 32 rfl) (ty := (.object nPredec_4)) (by decide) rfl rfl (g := (mkF m 59 #[.val (.ref a1), .val (.long j2), .second, .val (.ref a4), .unset] [(.ref a9), (.ref a1)])) rfl rfl (hb hby d_prog_22_method_12_59)
  have f28 : Fld Z h27 a1 nKnownO_3 "named" nPredec_7 (.ref a9) := t26.same W27
  have N27 := Fr.snoc X27 N20 g_a1
  have O29 : Old Z n0 h27 := Old.wr O21 W27 g_a1
  have K30 : Keep h0 h27 [a1, a3, a5] := K22.wr W27 (Or.inl (List.mem_of_getElem? (i := 0) rfl))
  obtain ⟨T31, X31, e31, st31⟩ := getF X27 hx hZ hown (host := "") (Or.inl (wq hw 128 rfl)) Via.refl e27 f28 (g := (mkF m 64 #[.val (.ref a1), .val (.long j2), .second, .val (.ref a4), .unset] [(.ref a1), (.ref a1)])) rfl rfl (hb hby d_prog_22_method_12_64)
  have t32 : Exa Z h27 a9 nPredec_4 := (t23.wr W27)
  have ne33 : a9 ≠ a1 := Exa.ne E_a9 E_a1 (by decide)
  have ne34 : a9 ≠ a3 := Exa.ne E_a9 E_a3 (by decide)
  have ne35 : a9 ≠ a5 := Exa.neArv E_a9 V_a5 (wq hw 62 rfl)
  have t36 : Fld Z h27 a9 nPredec_4 "id" nMessag_5 (.ref a10) := (((F_a9_id.other W4 (Or.inl ne33)).keep K20 (ninS ne35 (ninS ne34 nin0))).other W27 (Or.inl ne33))
  obtain ⟨cq37, kq37, q37a, q37b, q37c⟩ := isOf hZ e31 (t32)
  obtain ⟨_, _, ⟨T37, L37, k37, n37⟩, -, X37, ⟨Lc37, hQ37, l37, y37, z37⟩, st37⟩ := X31.virtualBack hx (y := my_1) (z := my_1) hown (mvT hZ (wq hw 144 rfl)) (mvT hZ (wq hw 145 rfl)) (notFace_of_selects (args := #[]) (mvT hZ (wq hw 147 rfl))) (mvT hZ (wq hw 147 rfl)) (mvT hZ (wq hw 146 rfl)) (by decide) (backOf (W := 1) (rc2_id l Z a0 hw [] cs aE hS a9 a10 h27 n0 O29 t36) hZ (wq hw 148 rfl) (wq hw 63 rfl) (by decide) (by decide)) q37a q37c (g := (mkF m 67 #[.val (.ref a1), .val (.long j2), .second, .val (.ref a4), .unset] [(.ref a9), (.ref a1)])) rfl (by rw [hml]; rfl) (Steps.refl _) (argsL := []) (rest := [(.ref a1)]) (lenOf pd_0 rfl) rfl (by show 2 * 0 + _ ≤ _; exact Nat.le_of_eq rfl) (hb hby d_prog_22_method_12_67) (fun _ _ => ⟨rfl, e31, (by decide : 0 + 0 ≤ _), (by decide : 0 + 0 ≤ _)⟩)
  dsimp only [Pt.U, Pt.locs, Pt.cells, Pt.slots] at X37 l37 y37 z37 st37 hQ37
  have X37 := own_to X37 l37 y37 z37
  obtain ⟨rfl, N37q, e37⟩ := hQ37
  have N37 := Fr.app N27 N37q
  have t38 : Exa Z h27 a10 nMessag_6 := (((E_a10.wr W4).keep K20).wr W27)
  have ne39 : a10 ≠ a1 := Exa.ne E_a10 E_a1 (by decide)
  have ne40 : a10 ≠ a3 := Exa.ne E_a10 E_a3 (by decide)
  have ne41 : a10 ≠ a5 := Exa.neArv E_a10 V_a5 (wq hw 65 rfl)
  have t42 : Fld Z h27 a10 nMessag_6 "seq" "J" (.long j11) := (((F_a10_seq.other W4 (Or.inl ne39)).keep K20 (ninS ne41 (ninS ne40 nin0))).other W27 (Or.inl ne39))
  obtain ⟨cq43, kq43, q43a, q43b, q43c⟩ := isOf hZ e37 (t38)
  obtain ⟨_, _, ⟨T43, L43, k43, n43⟩, -, X43, ⟨Lc43, hQ43, l43, y43, z43⟩, st43⟩ := X37.virtualBack hx (y := my_2) (z := my_2) hown (mvT hZ (wq hw 149 rfl)) (mvT hZ (wq hw 150 rfl)) (notFace_of_selects (args := #[]) (mvT hZ (wq hw 152 rfl))) (mvT hZ (wq hw 152 rfl)) (mvT hZ (wq hw 151 rfl)) (by decide) (backOf (W := 1) (rc3_seq l Z a0 hw [] cs aE hS a10 j11 h27 n0 O29 t42) hZ (wq hw 153 rfl) (wq hw 66 rfl) (by decide) (by decide)) q43a q43c (g := (mkF m 70 #[.val (.ref a1), .val (.long j2), .second, .val (.ref a4), .unset] [(.ref a10), (.ref a1)])) rfl (by rw [hml]; rfl) (Steps.refl _) (argsL := []) (rest := [(.ref a1)]) (lenOf pd_1 rfl) rfl (by show 2 * 0 + _ ≤ _; exact Nat.le_of_eq rfl) (hb hby d_prog_22_method_12_70) (fun _ _ => ⟨rfl, e37, (by decide : 0 + 0 ≤ _), (by decide : 0 + 0 ≤ _)⟩)
  dsimp only [Pt.U, Pt.locs, Pt.cells, Pt.slots] at X43 l43 y43 z43 st43 hQ43
  have X43 := own_to X43 l43 y43 z43
  obtain ⟨rfl, N43q, e43⟩ := hQ43
  have N43 := Fr.app N37 N43q
  have t44 : Exa Z h27 a1 nKnownO_3 := (t25.wr W27)
  have t45 : Fld Z h27 a1 nKnownO_3 "namedSeq" "J" (.long j2) := (((F_a1_namedSeq.other W4 (Or.inr (slot_ne (Or.inl (wq hw 155 rfl)) (Or.inl (wq hw 129 rfl)) (by decide) (t := .long) (t' := (.object nPredec_4)) (by decide) (by decide)))).keep K20 (ninS (Ne.symm ne18) (ninS (Ne.symm ne13) nin0))).other W27 (Or.inr (slot_ne (Or.inl (wq hw 155 rfl)) (Or.inl (wq hw 129 rfl)) (by decide) (t := .long) (t' := (.object nPredec_4)) (by decide) (by decide))))
  obtain ⟨T46, h46, X46, e46, W46, st46⟩ := putF X43 hx hZ hown (host := "") (Or.inl (wq hw 154 rfl)) Via.refl e43 t45 t44 (Or.inl (wq hw 155 rfl)) (wq hw 32 rfl) (ty := .long) (by decide) rfl rfl (g := (mkF m 73 #[.val (.ref a1), .val (.long j2), .second, .val (.ref a4), .unset] [(.long j11), (.ref a1)])) rfl rfl (hb hby d_prog_22_method_12_73)
  have f47 : Fld Z h46 a1 nKnownO_3 "namedSeq" "J" (.long j11) := t45.same W46
  have N46 := Fr.snoc X46 N43 g_a1
  have O48 : Old Z n0 h46 := Old.wr O29 W46 g_a1
  have K49 : Keep h0 h46 [a1, a3, a5] := K30.wr W46 (Or.inl (List.mem_of_getElem? (i := 0) rfl))
  have t50 : Fld Z h46 a1 nKnownO_3 "alsoNamed" nList_8 (.ref a3) := (((t8.keep K20 (ninS (Ne.symm ne18) (ninS (Ne.symm ne13) nin0))).other W27 (Or.inr (slot_ne (Or.inl (wq hw 157 rfl)) (Or.inl (wq hw 129 rfl)) (by decide) (t := (.object "java/util/List")) (t' := (.object nPredec_4)) (by decide) (by decide)))).other W46 (Or.inr (slot_ne (Or.inl (wq hw 157 rfl)) (Or.inl (wq hw 155 rfl)) (by decide) (t := (.object "java/util/List")) (t' := .long) (by decide) (by decide))))
  obtain ⟨T51, X51, e51, st51⟩ := getF X46 hx hZ hown (host := "") (Or.inl (wq hw 156 rfl)) Via.refl e46 t50 (g := (mkF m 77 #[.val (.ref a1), .val (.long j2), .second, .val (.ref a4), .unset] [(.ref a1)])) rfl rfl (hb hby d_prog_22_method_12_77)
  have t52 : Exa Z h46 a3 nArrayL_9 := ((q20_2.wr W27).wr W46)
  have t53 : Fld Z h46 a3 nArrayL_9 "size" "I" (.int (0 : Int32)) := ((q20_5.other W27 (Or.inl ne13)).other W46 (Or.inl ne13))
  obtain ⟨cq54, kq54, q54a, q54b, q54c⟩ := isOf hZ e51 (t52)
  obtain ⟨_, _, ⟨T54, L54, k54, n54⟩, -, X54, ⟨Lc54, hQ54, l54, y54, z54⟩, st54⟩ := X51.interfaceBack hx (xi := my_25) (y := my_23) hown (mvT hZ (wq hw 253 rfl)) (mvT hZ (wq hw 254 rfl)) (mvT hZ (wq hw 255 rfl)) (mvT hZ (wq hw 256 rfl)) (mvT hZ (wq hw 257 rfl)) (mvT hZ (wq hw 258 rfl)) (mvT hZ (wq hw 259 rfl)) (mvT hZ (wq hw 190 rfl)) (by decide) (backOf (W := 0) (rc27_isEmpty l Z a0 hw [] cs aE hS a3 h46 n0 O48 g_a3 t53) hZ (wq hw 260 rfl) (wq hw 160 rfl) (by decide) (by decide)) q54a q54b q54c (g := (mkF m 80 #[.val (.ref a1), .val (.long j2), .second, .val (.ref a4), .unset] [(.ref a3)])) rfl (by rw [hml]; rfl) (Steps.refl _) (argsL := []) (rest := []) (lenOf pd_14 rfl) rfl (by show 2 * 0 + _ ≤ _; exact Nat.le_of_eq rfl) (hb hby d_prog_22_method_12_80) (fun _ _ => ⟨rfl, e51, (by decide : 0 + 0 ≤ _), (by decide : 0 + 0 ≤ _)⟩)
  dsimp only [Pt.U, Pt.locs, Pt.cells, Pt.slots] at X54 l54 y54 z54 st54 hQ54
  have X54 := own_to X54 l54 y54 z54
  obtain ⟨rfl, N54q, e54⟩ := hQ54
  have N54 := Fr.app N46 N54q
  have t55 : Exa Z h46 a1 nKnownO_3 := (t44.wr W46)
  obtain ⟨T56, h56, X56, e56, W56, st56⟩ := putF X54 hx hZ hown (host := "") (Or.inl (wq hw 156 rfl)) Via.refl e54 t50 t55 (Or.inl (wq hw 157 rfl)) (wq hw 32 rfl) (ty := (.object "java/util/List")) (by decide) rfl rfl (g := (mkF m 90 #[.val (.ref a1), .val (.long j2), .second, .val (.ref a4), .unset] [.null, (.ref a1)])) rfl rfl (hb hby d_prog_22_method_12_90)
  have f57 : Fld Z h56 a1 nKnownO_3 "alsoNamed" nList_8 .null := t50.same W56
  have N56 := Fr.snoc X56 N54 g_a1
  have O58 : Old Z n0 h56 := Old.wr O48 W56 g_a1
  have K59 : Keep h0 h56 [a1, a3, a5] := K49.wr W56 (Or.inl (List.mem_of_getElem? (i := 0) rfl))
  have t60 : Exa Z h56 a1 nKnownO_3 := (t55.wr W56)
  have t61 : Fld Z h56 a1 nKnownO_3 "named" nPredec_7 (.ref a9) := ((f28.other W46 (Or.inr (slot_ne (Or.inl (wq hw 129 rfl)) (Or.inl (wq hw 155 rfl)) (by decide) (t := (.object nPredec_4)) (t' := .long) (by decide) (by decide)))).other W56 (Or.inr (slot_ne (Or.inl (wq hw 129 rfl)) (Or.inl (wq hw 157 rfl)) (by decide) (t := (.object nPredec_4)) (t' := (.object "java/util/List")) (by decide) (by decide))))
  have t62 : Fld Z h56 a1 nKnownO_3 "namedSeq" "J" (.long j11) := (f47.other W56 (Or.inr (slot_ne (Or.inl (wq hw 155 rfl)) (Or.inl (wq hw 157 rfl)) (by decide) (t := .long) (t' := (.object "java/util/List")) (by decide) (by decide))))
  have t63 : Exa Z h56 a3 nArrayL_9 := (t52.wr W56)
  have t64 : Fld Z h56 a3 nArrayL_9 "elementData" nObject_10 (.ref a5) := (((q20_3.other W27 (Or.inl ne13)).other W46 (Or.inl ne13)).other W56 (Or.inl ne13))
  have t65 : Fld Z h56 a3 nAbstra_11 "modCount" "I" (.int (i6 + (1 : Int32))) := (((q20_4.other W27 (Or.inl ne13)).other W46 (Or.inl ne13)).other W56 (Or.inl ne13))
  have t66 : Fld Z h56 a3 nArrayL_9 "size" "I" (.int (0 : Int32)) := (t53.other W56 (Or.inl ne13))
  have t67 : Arv Z h56 a5 cid8 (.object nObject_12) (1 : Int32) [.null] .null := (((q20_0.other W27 ne18).other W46 ne18).other W56 ne18)
  obtain ⟨fs, hr, hrun, hended, hW, hsame⟩ := X56.leave (v := (some (.ref a4))) (fun h => by rw [Bd.returns] at h; cases h)
  refine ⟨_, _, pre0 _ ?_, hrun, hended, _, _, rfl, ?_, ⟨_, rfl⟩, hW, hsame.mono (by decide) (by decide)⟩
  · refine XS.aloadN X0.here hx rfl (hb hby d_prog_22_method_12_0) rfl rfl ?_
    refine st1 _ ?_
    refine XS.ifnonnullYes X1.here hx rfl (pc0 := 4) (pc' := 9) rfl (hb hby d_prog_22_method_12_4) rfl (by decide) (by decide) ?_
    refine XS.aloadN X1.here hx rfl (hb hby d_prog_22_method_12_9) rfl rfl ?_
    refine st2 _ ?_
    refine XS.lloadN X2.here hx rfl (hb hby d_prog_22_method_12_13) rfl ?_
    refine XS.lcmp X2.here hx rfl (hb hby d_prog_22_method_12_14) rfl ?_
    refine XS.ifNo X2.here hx rfl (hb hby d_prog_22_method_12_15) rfl ((if0 _ _).trans (teq ((lw_eq _ _).mpr rfl)).2) ?_
    refine XS.aloadN X2.here hx rfl (hb hby d_prog_22_method_12_18) rfl rfl ?_
    refine st3 _ ?_
    refine XS.astoreN X3.here hx rfl (hb hby d_prog_22_method_12_22) rfl rfl (l' := #[.val (.ref a1), .val (.long j2), .second, .val (.ref a4), .unset]) rfl ?_
    refine XS.aloadN X3.here hx rfl (hb hby d_prog_22_method_12_23) rfl rfl ?_
    refine XS.aconstNull X3.here hx rfl (hb hby d_prog_22_method_12_24) ?_
    refine st4 _ ?_
    refine XS.aloadN X4.here hx rfl (hb hby d_prog_22_method_12_28) rfl rfl ?_
    refine st9 _ ?_
    refine XS.ifnullNo X9.here hx rfl (hb hby d_prog_22_method_12_32) rfl ?_
    refine XS.aloadN X9.here hx rfl (hb hby d_prog_22_method_12_35) rfl rfl ?_
    refine XS.aloadN X9.here hx rfl (hb hby d_prog_22_method_12_36) rfl rfl ?_
    refine st10 _ ?_
    refine XS.aloadN X10.here hx rfl (hb hby d_prog_22_method_12_40) rfl rfl ?_
    refine st11 _ ?_
    refine st15.trans ?_
    refine XS.iconst X15.here hx rfl (hb hby d_prog_22_method_12_49) ?_
    refine XS.isub X15.here hx rfl (hb hby d_prog_22_method_12_50) rfl ?_
    show Steps p.tables e below (T15.setTop (mkF m 51 #[.val (.ref a1), .val (.long j2), .second, .val (.ref a4), .unset] [(.int (0 : Int32)), (.ref a3), (.ref a1)])) _
    refine st20.trans ?_
    refine st24 _ ?_
    refine st27 _ ?_
    refine XS.aloadN X27.here hx rfl (hb hby d_prog_22_method_12_62) rfl rfl ?_
    refine XS.aloadN X27.here hx rfl (hb hby d_prog_22_method_12_63) rfl rfl ?_
    refine st31 _ ?_
    refine st37.trans ?_
    refine st43.trans ?_
    refine st46 _ ?_
    refine XS.aloadN X46.here hx rfl (hb hby d_prog_22_method_12_76) rfl rfl ?_
    refine st51 _ ?_
    refine st54.trans ?_
    refine XS.ifNo X54.here hx rfl (hb hby d_prog_22_method_12_85) rfl ((if0 _ _).trans (feq (by decide : ¬ ((1 : Int32) = (0 : Int32)))).1) ?_
    refine XS.aloadN X54.here hx rfl (hb hby d_prog_22_method_12_88) rfl rfl ?_
    refine XS.aconstNull X54.here hx rfl (hb hby d_prog_22_method_12_89) ?_
    refine st56 _ ?_
    refine XS.aloadN X56.here hx rfl (hb hby d_prog_22_method_12_93) rfl rfl ?_
    exact retOut X56 hx Bd.returns rfl (Or.inr (Or.inr (Or.inr (Or.inr ⟨rfl, rfl, rfl⟩)))) (hb hby d_prog_22_method_12_94) hr
  · show Q_rc24_unname Z aE a1 j2 a3 a4 a5 i6 cid8 a9 a10 j11 h0 n0 _ T56.heap _
    rw [e56]
    exact ⟨rfl, N56, K59, t60, f57, t61, t62, t63, t64, t65, t66, t67, q20_1⟩
set_option maxRecDepth 65536 in
set_option maxHeartbeats 40000000 in
theorem rs_N_AB_2 (l : Launch) (Z : State) (a0 : Array Value) (hw : ∀ d ∈ tables_1, d.before a0 Z = true) (ws : List Jvm.Cond) (cs : Int32) (aE : Addr) (hS : SB Z cs aE) (k pA mA : Addr) (sa : Int64) (pB mB : Addr) (sb : Int64) (h0 : Heap) (n0 : Nat) (O0 : Old Z n0 h0) (hq : ¬ sa = sb) (hFB : FB Z n0 h0 k pA mA sa pB mB sb) (hKS : KS2 Z n0 h0 k pA sa pB) :
    Met l my_4 method_3_code 10 (some .int) ws ({ frames := 5, cells := 2, slots := 4, locals := 67 } : Room) #[(.ref k), (.int (2 : Int32)), (.ref pA), (.ref pB), (.long sa), (.long sb), (.int (0 : Int32)), (.int (3 : Int32))] Z h0 (QSN Z k pA mA sa pB mB sb h0 n0) := by
  refine MetFree.of_bodySF (plainFor_of_name pn_3) hisR ?_
  intro p e s m args below meth c s₁ Bd hml0 hP hK
  obtain ⟨rfl, hZ, hh⟩ := hP
  have hx := Bd.exec
  have hby := Bd.bytes
  have hml : c.maxLocals = 10 := hml0
  have hown : s.vm.findClass nKnownO_13 = some m.cls := findClass_of_methodNamed Bd.named
  have hnm := (name_of_methodNamed Bd.named Bd.method).1
  have X0 : Stand p l e ({ frames := 5, cells := 2, slots := 4, locals := 67 } : Room) s m #[(.ref k), (.int (2 : Int32)), (.ref pA), (.ref pB), (.long sa), (.long sb), (.int (0 : Int32)), (.int (3 : Int32))] below meth c s₁ [] 0 0 := Stand.of_body Bd
  have e0 : s₁.heap = h0 := by rw [← hh, Bd.state]; rfl
  have N0 := Fr.nil n0
  obtain ⟨f₀, hf₀⟩ : ∃ f, f = entryFrame m #[(.ref k), (.int (2 : Int32)), (.ref pA), (.ref pB), (.long sa), (.long sb), (.int (0 : Int32)), (.int (3 : Int32))] 10 := ⟨_, rfl⟩
  rw [← hf₀]
  have pre0 : Go p e below s₁ f₀ s₁ (mkF m 0 #[.val (.ref k), .val (.int (2 : Int32)), .val (.ref pA), .val (.ref pB), .val (.long sa), .second, .val (.long sb), .second, .val (.int (0 : Int32)), .val (.int (3 : Int32))] []) := fun t kk => castTop (hf₀.trans (ef_rs_N_AB_2 m (k) ((2 : Int32)) (pA) (pB) (sa) (sb) ((0 : Int32)) ((3 : Int32)))) kk
  obtain ⟨Ek, gk, EpA, FpA, EmA, FmA, EpB, FpB, EmB, FmB⟩ := hFB
  obtain ⟨L, E, ce, mc, KN1, KN2, KN3, EL, FL1, FL2, FL3, VE, OE, gL, gE⟩ := hKS
  obtain ⟨cq1, kq1, q1a, q1b, q1c⟩ := isOf hZ e0 (Ek)
  obtain ⟨_, _, ⟨T1, L1, k1, n1⟩, -, X1, ⟨Lc1, hQ1, l1, y1, z1⟩, st1⟩ := X0.virtualBack hx (y := my_5) (z := my_5) hown (mvT hZ (wq hw 134 rfl)) (mvT hZ (wq hw 135 rfl)) (notFace_of_selects (args := #[]) (mvT hZ (wq hw 137 rfl))) (mvT hZ (wq hw 137 rfl)) (mvT hZ (wq hw 136 rfl)) (by decide) (backOf (W := 0) (rc24_unname l Z a0 hw [] cs aE hS k sa L pA E mc ce pB mB sb h0 n0 O0 gk gL gE Ek KN3 KN1 KN2 EL FL2 FL3 FL1 VE OE EpB FpB EmB FmB) hZ (wq hw 138 rfl) (wq hw 33 rfl) (by decide) (by decide)) q1a q1c (g := (mkF m 57 #[.val (.ref k), .val (.int (2 : Int32)), .val (.ref pA), .val (.ref pB), .val (.long sa), .second, .val (.long sb), .second, .val (.int (0 : Int32)), .val (.int (3 : Int32))] [(.long sa), (.ref k)])) rfl (by rw [hml]; rfl) (Steps.refl _) (argsL := [(.long sa)]) (rest := []) (lenOf pd_3 rfl) rfl (by show 2 * 0 + _ ≤ _; exact Nat.le_of_eq rfl) (hb hby d_method_3_57) (fun _ _ => ⟨rfl, e0, (by decide : 0 + 0 ≤ _), (by decide : 0 + 0 ≤ _)⟩)
  dsimp only [Pt.U, Pt.locs, Pt.cells, Pt.slots] at X1 l1 y1 z1 st1 hQ1
  have X1 := own_to X1 l1 y1 z1
  obtain ⟨rfl, N1q, K1, q1_0, q1_1, q1_2, q1_3, q1_4, q1_5, q1_6, q1_7, q1_8, q1_9⟩ := hQ1
  have N1 := Fr.app N0 N1q
  have O2 : Old Z n0 T1.heap := Old.keep O0 K1 (allS gk (allS gL (allS gE all0)))
  have K3 : Keep h0 T1.heap [k, L, E] := (Keep.refl h0 [k, L, E]).trans K1 (allS (Or.inl (List.mem_of_getElem? (i := 0) rfl)) (allS (Or.inl (List.mem_of_getElem? (i := 1) rfl)) (allS (Or.inl (List.mem_of_getElem? (i := 2) rfl)) all0)))
  have t4 : Exa Z T1.heap pA nPredec_4 := (EpA.keep K1)
  have ne5 : pA ≠ E := Exa.neArv EpA VE (wq hw 62 rfl)
  have ne6 : pA ≠ L := Exa.ne EpA EL (by decide)
  have ne7 : pA ≠ k := Exa.ne EpA Ek (by decide)
  have t8 : Fld Z T1.heap pA nPredec_4 "id" nMessag_5 (.ref mA) := (FpA.keep K1 (ninS ne7 (ninS ne6 (ninS ne5 nin0))))
  have t9 : Exa Z T1.heap mA nMessag_6 := (EmA.keep K1)
  have ne10 : mA ≠ E := Exa.neArv EmA VE (wq hw 65 rfl)
  have ne11 : mA ≠ L := Exa.ne EmA EL (by decide)
  have ne12 : mA ≠ k := Exa.ne EmA Ek (by decide)
  have t13 : Fld Z T1.heap mA nMessag_6 "seq" "J" (.long sa) := (FmA.keep K1 (ninS ne12 (ninS ne11 (ninS ne10 nin0))))
  have t14 : Exa Z T1.heap pB nPredec_4 := (EpB.keep K1)
  have ne15 : pB ≠ E := Exa.neArv EpB VE (wq hw 62 rfl)
  have ne16 : pB ≠ L := Exa.ne EpB EL (by decide)
  have ne17 : pB ≠ k := Exa.ne EpB Ek (by decide)
  have t18 : Fld Z T1.heap pB nPredec_4 "id" nMessag_5 (.ref mB) := (FpB.keep K1 (ninS ne17 (ninS ne16 (ninS ne15 nin0))))
  have t19 : Exa Z T1.heap mB nMessag_6 := (EmB.keep K1)
  have ne20 : mB ≠ E := Exa.neArv EmB VE (wq hw 65 rfl)
  have ne21 : mB ≠ L := Exa.ne EmB EL (by decide)
  have ne22 : mB ≠ k := Exa.ne EmB Ek (by decide)
  have t23 : Fld Z T1.heap mB nMessag_6 "seq" "J" (.long sb) := (FmB.keep K1 (ninS ne22 (ninS ne21 (ninS ne20 nin0))))
  obtain ⟨fs, hr, hrun, hended, hW, hsame⟩ := X1.leave (v := (some (.int (2 : Int32)))) (fun h => by rw [Bd.returns] at h; cases h)
  refine ⟨_, _, pre0 _ ?_, hrun, hended, _, _, rfl, ?_, ⟨_, rfl⟩, hW, hsame.mono (by decide) (by decide)⟩
  · refine XS.iloadN X0.here hx rfl (hb hby d_method_3_0) rfl ?_
    refine XS.ifYes X0.here hx rfl (pc0 := 1) (pc' := 24) rfl (hb hby d_method_3_1) rfl ((if0 _ _).trans (feq (by decide : ¬ ((2 : Int32) = (0 : Int32)))).2) (by decide) (by decide) ?_
    refine XS.iloadN X0.here hx rfl (hb hby d_method_3_24) rfl ?_
    refine XS.iconst X0.here hx rfl (hb hby d_method_3_25) ?_
    refine XS.icmpYes X0.here hx rfl (pc0 := 26) (pc' := 49) rfl (hb hby d_method_3_26) rfl (feq (by decide : ¬ ((2 : Int32) = (1 : Int32)))).2 (by decide) (by decide) ?_
    refine XS.iloadN X0.here hx rfl (hb hby d_method_3_49) rfl ?_
    refine XS.iconst X0.here hx rfl (hb hby d_method_3_50) ?_
    refine XS.icmpNo X0.here hx rfl (hb hby d_method_3_51) rfl (teq (by decide : (2 : Int32) = (2 : Int32))).2 ?_
    refine XS.aloadN X0.here hx rfl (hb hby d_method_3_54) rfl rfl ?_
    refine XS.lload X0.here hx rfl (hb hby d_method_3_55) rfl ?_
    refine st1.trans ?_
    refine XS.pop X1.here hx rfl (hb hby d_method_3_60) rfl rfl ?_
    refine XS.iload X1.here hx rfl (hb hby d_method_3_61) rfl ?_
    refine XS.iload X1.here hx rfl (hb hby d_method_3_63) rfl ?_
    refine XS.ifYes X1.here hx rfl (pc0 := 65) (pc' := 72) rfl (hb hby d_method_3_65) rfl ((if0 _ _).trans (teq (by decide : (0 : Int32) = (0 : Int32))).1) (by decide) (by decide) ?_
    refine XS.iconst X1.here hx rfl (hb hby d_method_3_72) ?_
    refine XS.iand X1.here hx rfl (hb hby d_method_3_73) rfl ?_
    show Steps p.tables e below (T1.setTop (mkF m 74 #[.val (.ref k), .val (.int (2 : Int32)), .val (.ref pA), .val (.ref pB), .val (.long sa), .second, .val (.long sb), .second, .val (.int (0 : Int32)), .val (.int (3 : Int32))] [(.int (2 : Int32))])) _
    exact retI X1 hx Bd.returns (hb hby d_method_3_74) hr
  · show QSN Z k pA mA sa pB mB sb h0 n0 _ T1.heap _
    exact ⟨_, rfl, N1, K3.1, O2, ⟨q1_0, gk, t4, t8, t9, t13, t14, t18, t19, t23⟩, Or.inr (Or.inr (Or.inl ⟨rfl, ⟨q1_2, q1_3, q1_1⟩⟩))⟩
def Q_rc28_unname (Z : State) (aE : Addr) (a1 : Addr) (j2 : Int64) (a3 : Addr) (a4 : Addr) (j5 : Int64) (a6 : Addr) (i7 : Int32) (cid9 : ClassId) (a10 : Addr) (a11 : Addr) (h0 : Heap) (n0 : Nat) (v : Option Value) (h : Heap) (L : List Loc) : Prop := v = some (.ref a10) ∧ Fr n0 L ∧ Keep h0 h [a3, a6, a1] ∧ Exa Z h a3 nArrayL_9 ∧ Fld Z h a3 nArrayL_9 "elementData" nObject_10 (.ref a6) ∧ Fld Z h a3 nAbstra_11 "modCount" "I" (.int (i7 + (1 : Int32))) ∧ Fld Z h a3 nArrayL_9 "size" "I" (.int (0 : Int32)) ∧ Arv Z h a6 cid9 (.object nObject_12) (1 : Int32) [.null] .null ∧ Ovr Z cid9 nObject_12 ∧ Exa Z h a1 nKnownO_3 ∧ Fld Z h a1 nKnownO_3 "alsoNamed" nList_8 .null ∧ Fld Z h a1 nKnownO_3 "named" nPredec_7 (.ref a4) ∧ Fld Z h a1 nKnownO_3 "namedSeq" "J" (.long j5)
set_option maxRecDepth 65536 in
set_option maxHeartbeats 40000000 in
theorem rc28_unname (l : Launch) (Z : State) (a0 : Array Value) (hw : ∀ d ∈ tables_1, d.before a0 Z = true) (ws : List Jvm.Cond) (cs : Int32) (aE : Addr) (hS : SB Z cs aE) (a1 : Addr) (j2 : Int64) (a3 : Addr) (a4 : Addr) (j5 : Int64) (a6 : Addr) (i7 : Int32) (cid9 : ClassId) (a10 : Addr) (a11 : Addr) (h0 : Heap) (n0 : Nat) (O0 : Old Z n0 h0) (g_a1 : n0 ≤ a1) (g_a3 : n0 ≤ a3) (g_a6 : n0 ≤ a6) (E_a1 : Exa Z h0 a1 nKnownO_3) (F_a1_alsoNamed : Fld Z h0 a1 nKnownO_3 "alsoNamed" nList_8 (.ref a3)) (F_a1_named : Fld Z h0 a1 nKnownO_3 "named" nPredec_7 (.ref a4)) (F_a1_namedSeq : Fld Z h0 a1 nKnownO_3 "namedSeq" "J" (.long j5)) (E_a3 : Exa Z h0 a3 nArrayL_9) (F_a3_elementData : Fld Z h0 a3 nArrayL_9 "elementData" nObject_10 (.ref a6)) (F_a3_modCount : Fld Z h0 a3 nAbstra_11 "modCount" "I" (.int i7)) (F_a3_size : Fld Z h0 a3 nArrayL_9 "size" "I" (.int (1 : Int32))) (V_a6 : Arv Z h0 a6 cid9 (.object nObject_12) (1 : Int32) [(.ref a10)] .null) (Ov_a6 : Ovr Z cid9 nObject_12) (E_a10 : Exa Z h0 a10 nPredec_4) (F_a10_id : Fld Z h0 a10 nPredec_4 "id" nMessag_5 (.ref a11)) (E_a11 : Exa Z h0 a11 nMessag_6) (F_a11_seq : Fld Z h0 a11 nMessag_6 "seq" "J" (.long j2)) (hy0 : ¬ j5 = j2) :
    Met l my_5 prog_22_method_12_code 5 (some (.object nPredec_4)) ws ({ frames := 3, cells := 0, slots := 0, locals := 42 } : Room) #[(.ref a1), (.long j2)] Z h0 (Q_rc28_unname Z aE a1 j2 a3 a4 j5 a6 i7 cid9 a10 a11 h0 n0) := by
  refine MetFree.of_bodySF (plainFor_of_name pn_2) hisR ?_
  intro p e s m args below meth c s₁ Bd hml0 hP hK
  obtain ⟨rfl, hZ, hh⟩ := hP
  have hx := Bd.exec
  have hby := Bd.bytes
  have hml : c.maxLocals = 5 := hml0
  have hown : s.vm.findClass nKnownO_3 = some m.cls := findClass_of_methodNamed Bd.named
  have hnm := (name_of_methodNamed Bd.named Bd.method).1
  have X0 : Stand p l e ({ frames := 3, cells := 0, slots := 0, locals := 42 } : Room) s m #[(.ref a1), (.long j2)] below meth c s₁ [] 0 0 := Stand.of_body Bd
  have e0 : s₁.heap = h0 := by rw [← hh, Bd.state]; rfl
  have N0 := Fr.nil n0
  obtain ⟨f₀, hf₀⟩ : ∃ f, f = entryFrame m #[(.ref a1), (.long j2)] 5 := ⟨_, rfl⟩
  rw [← hf₀]
  have pre0 : Go p e below s₁ f₀ s₁ (mkF m 0 #[.val (.ref a1), .val (.long j2), .second, .unset, .unset] []) := fun t kk => castTop (hf₀.trans (ef_rc28_unname m (a1) (j2))) kk
  obtain ⟨T1, X1, e1, st1⟩ := getF X0 hx hZ hown (host := "") (Or.inl (wq hw 128 rfl)) Via.refl e0 F_a1_named (g := (mkF m 1 #[.val (.ref a1), .val (.long j2), .second, .unset, .unset] [(.ref a1)])) rfl rfl (hb hby d_prog_22_method_12_1)
  obtain ⟨T2, X2, e2, st2⟩ := getF X1 hx hZ hown (host := "") (Or.inl (wq hw 154 rfl)) Via.refl e1 F_a1_namedSeq (g := (mkF m 10 #[.val (.ref a1), .val (.long j2), .second, .unset, .unset] [(.ref a1)])) rfl rfl (hb hby d_prog_22_method_12_10)
  obtain ⟨T3, X3, e3, st3⟩ := getF X2 hx hZ hown (host := "") (Or.inl (wq hw 156 rfl)) Via.refl e2 F_a1_alsoNamed (g := (mkF m 96 #[.val (.ref a1), .val (.long j2), .second, .unset, .unset] [(.ref a1)])) rfl rfl (hb hby d_prog_22_method_12_96)
  obtain ⟨T4, X4, e4, st4⟩ := getF X3 hx hZ hown (host := "") (Or.inl (wq hw 156 rfl)) Via.refl e3 F_a1_alsoNamed (g := (mkF m 106 #[.val (.ref a1), .val (.long j2), .second, .val (.int (0 : Int32)), .unset] [(.ref a1), (.int (0 : Int32))])) rfl rfl (hb hby d_prog_22_method_12_106)
  obtain ⟨cq5, kq5, q5a, q5b, q5c⟩ := isOf hZ e4 (E_a3)
  obtain ⟨_, _, ⟨T5, L5, k5, n5⟩, -, X5, ⟨Lc5, hQ5, l5, y5, z5⟩, st5⟩ := X4.interfaceBack hx (xi := my_12) (y := my_9) hown (mvT hZ (wq hw 183 rfl)) (mvT hZ (wq hw 184 rfl)) (mvT hZ (wq hw 185 rfl)) (mvT hZ (wq hw 186 rfl)) (mvT hZ (wq hw 187 rfl)) (mvT hZ (wq hw 188 rfl)) (mvT hZ (wq hw 189 rfl)) (mvT hZ (wq hw 190 rfl)) (by decide) (backOf (W := 1) (rc18_size l Z a0 hw [] cs aE hS a3 h0 n0 O0 g_a3 F_a3_size) hZ (wq hw 191 rfl) (wq hw 160 rfl) (by decide) (by decide)) q5a q5b q5c (g := (mkF m 109 #[.val (.ref a1), .val (.long j2), .second, .val (.int (0 : Int32)), .unset] [(.ref a3), (.int (0 : Int32))])) rfl (by rw [hml]; rfl) (Steps.refl _) (argsL := []) (rest := [(.int (0 : Int32))]) (lenOf pd_6 rfl) rfl (by show 2 * 0 + _ ≤ _; exact Nat.le_of_eq rfl) (hb hby d_prog_22_method_12_109) (fun _ _ => ⟨rfl, e4, (by decide : 0 + 0 ≤ _), (by decide : 0 + 0 ≤ _)⟩)
  dsimp only [Pt.U, Pt.locs, Pt.cells, Pt.slots] at X5 l5 y5 z5 st5 hQ5
  have X5 := own_to X5 l5 y5 z5
  obtain ⟨rfl, N5q, e5⟩ := hQ5
  have N5 := Fr.app N0 N5q
  obtain ⟨T6, X6, e6, st6⟩ := getF X5 hx hZ hown (host := "") (Or.inl (wq hw 156 rfl)) Via.refl e5 F_a1_alsoNamed (g := (mkF m 118 #[.val (.ref a1), .val (.long j2), .second, .val (.int (0 : Int32)), .unset] [(.ref a1)])) rfl rfl (hb hby d_prog_22_method_12_118)
  obtain ⟨cq7, kq7, q7a, q7b, q7c⟩ := isOf hZ e6 (E_a3)
  obtain ⟨_, _, ⟨T7, L7, k7, n7⟩, -, X7, ⟨Lc7, hQ7, l7, y7, z7⟩, st7⟩ := X6.interfaceBack hx (xi := my_19) (y := my_17) hown (mvT hZ (wq hw 210 rfl)) (mvT hZ (wq hw 211 rfl)) (mvT hZ (wq hw 212 rfl)) (mvT hZ (wq hw 213 rfl)) (mvT hZ (wq hw 214 rfl)) (mvT hZ (wq hw 215 rfl)) (mvT hZ (wq hw 216 rfl)) (mvT hZ (wq hw 190 rfl)) (by decide) (backOf (W := 0) (rc19_get l Z a0 hw [] cs aE hS a3 a6 cid9 a10 h0 n0 O0 g_a3 g_a6 E_a3 F_a3_elementData F_a3_size V_a6 Ov_a6) hZ (wq hw 217 rfl) (wq hw 160 rfl) (by decide) (by decide)) q7a q7b q7c (g := (mkF m 122 #[.val (.ref a1), .val (.long j2), .second, .val (.int (0 : Int32)), .unset] [(.int (0 : Int32)), (.ref a3)])) rfl (by rw [hml]; rfl) (Steps.refl _) (argsL := [(.int (0 : Int32))]) (rest := []) (lenOf pd_11 rfl) rfl (by show 2 * 0 + _ ≤ _; exact Nat.le_of_eq rfl) (hb hby d_prog_22_method_12_122) (fun _ _ => ⟨rfl, e6, (by decide : 0 + 0 ≤ _), (by decide : 0 + 0 ≤ _)⟩)
  dsimp only [Pt.U, Pt.locs, Pt.cells, Pt.slots] at X7 l7 y7 z7 st7 hQ7
  have X7 := own_to X7 l7 y7 z7
  obtain ⟨rfl, N7q, e7⟩ := hQ7
  have N7 := Fr.app N5 N7q
  obtain ⟨T8, X8, e8, st8⟩ := castY X7 hx hZ hown (wq hw 230 rfl) e7 (Ins.self E_a10) (g := (mkF m 127 #[.val (.ref a1), .val (.long j2), .second, .val (.int (0 : Int32)), .unset] [(.ref a10)])) rfl rfl (hb hby d_prog_22_method_12_127)
  obtain ⟨cq9, kq9, q9a, q9b, q9c⟩ := isOf hZ e8 (E_a10)
  obtain ⟨_, _, ⟨T9, L9, k9, n9⟩, -, X9, ⟨Lc9, hQ9, l9, y9, z9⟩, st9⟩ := X8.virtualBack hx (y := my_1) (z := my_1) hown (mvT hZ (wq hw 144 rfl)) (mvT hZ (wq hw 145 rfl)) (notFace_of_selects (args := #[]) (mvT hZ (wq hw 147 rfl))) (mvT hZ (wq hw 147 rfl)) (mvT hZ (wq hw 146 rfl)) (by decide) (backOf (W := 0) (rc2_id l Z a0 hw [] cs aE hS a10 a11 h0 n0 O0 F_a10_id) hZ (wq hw 148 rfl) (wq hw 63 rfl) (by decide) (by decide)) q9a q9c (g := (mkF m 130 #[.val (.ref a1), .val (.long j2), .second, .val (.int (0 : Int32)), .unset] [(.ref a10)])) rfl (by rw [hml]; rfl) (Steps.refl _) (argsL := []) (rest := []) (lenOf pd_0 rfl) rfl (by show 2 * 0 + _ ≤ _; exact Nat.le_of_eq rfl) (hb hby d_prog_22_method_12_130) (fun _ _ => ⟨rfl, e8, (by decide : 0 + 0 ≤ _), (by decide : 0 + 0 ≤ _)⟩)
  dsimp only [Pt.U, Pt.locs, Pt.cells, Pt.slots] at X9 l9 y9 z9 st9 hQ9
  have X9 := own_to X9 l9 y9 z9
  obtain ⟨rfl, N9q, e9⟩ := hQ9
  have N9 := Fr.app N7 N9q
  obtain ⟨cq10, kq10, q10a, q10b, q10c⟩ := isOf hZ e9 (E_a11)
  obtain ⟨_, _, ⟨T10, L10, k10, n10⟩, -, X10, ⟨Lc10, hQ10, l10, y10, z10⟩, st10⟩ := X9.virtualBack hx (y := my_2) (z := my_2) hown (mvT hZ (wq hw 149 rfl)) (mvT hZ (wq hw 150 rfl)) (notFace_of_selects (args := #[]) (mvT hZ (wq hw 152 rfl))) (mvT hZ (wq hw 152 rfl)) (mvT hZ (wq hw 151 rfl)) (by decide) (backOf (W := 0) (rc3_seq l Z a0 hw [] cs aE hS a11 j2 h0 n0 O0 F_a11_seq) hZ (wq hw 153 rfl) (wq hw 66 rfl) (by decide) (by decide)) q10a q10c (g := (mkF m 133 #[.val (.ref a1), .val (.long j2), .second, .val (.int (0 : Int32)), .unset] [(.ref a11)])) rfl (by rw [hml]; rfl) (Steps.refl _) (argsL := []) (rest := []) (lenOf pd_1 rfl) rfl (by show 2 * 0 + _ ≤ _; exact Nat.le_of_eq rfl) (hb hby d_prog_22_method_12_133) (fun _ _ => ⟨rfl, e9, (by decide : 0 + 0 ≤ _), (by decide : 0 + 0 ≤ _)⟩)
  dsimp only [Pt.U, Pt.locs, Pt.cells, Pt.slots] at X10 l10 y10 z10 st10 hQ10
  have X10 := own_to X10 l10 y10 z10
  obtain ⟨rfl, N10q, e10⟩ := hQ10
  have N10 := Fr.app N9 N10q
  obtain ⟨T11, X11, e11, st11⟩ := getF X10 hx hZ hown (host := "") (Or.inl (wq hw 156 rfl)) Via.refl e10 F_a1_alsoNamed (g := (mkF m 142 #[.val (.ref a1), .val (.long j2), .second, .val (.int (0 : Int32)), .unset] [(.ref a1)])) rfl rfl (hb hby d_prog_22_method_12_142)
  obtain ⟨cq12, kq12, q12a, q12b, q12c⟩ := isOf hZ e11 (E_a3)
  obtain ⟨_, _, ⟨T12, L12, k12, n12⟩, -, X12, ⟨Lc12, hQ12, l12, y12, z12⟩, st12⟩ := X11.interfaceBack hx (xi := my_24) (y := my_22) hown (mvT hZ (wq hw 240 rfl)) (mvT hZ (wq hw 241 rfl)) (mvT hZ (wq hw 242 rfl)) (mvT hZ (wq hw 243 rfl)) (mvT hZ (wq hw 244 rfl)) (mvT hZ (wq hw 245 rfl)) (mvT hZ (wq hw 246 rfl)) (mvT hZ (wq hw 190 rfl)) (by decide) (backOf (W := 0) (rc25_remove l Z a0 hw [] cs aE hS a3 a6 i7 cid9 a10 h0 n0 O0 g_a3 g_a6 E_a3 F_a3_elementData F_a3_modCount F_a3_size V_a6 Ov_a6) hZ (wq hw 247 rfl) (wq hw 160 rfl) (by decide) (by decide)) q12a q12b q12c (g := (mkF m 146 #[.val (.ref a1), .val (.long j2), .second, .val (.int (0 : Int32)), .unset] [(.int (0 : Int32)), (.ref a3)])) rfl (by rw [hml]; rfl) (Steps.refl _) (argsL := [(.int (0 : Int32))]) (rest := []) (lenOf pd_11 rfl) rfl (by show 2 * 0 + _ ≤ _; exact Nat.le_of_eq rfl) (hb hby d_prog_22_method_12_146) (fun _ _ => ⟨rfl, e11, (by decide : 0 + 0 ≤ _), (by decide : 0 + 0 ≤ _)⟩)
  dsimp only [Pt.U, Pt.locs, Pt.cells, Pt.slots] at X12 l12 y12 z12 st12 hQ12
  have X12 := own_to X12 l12 y12 z12
  obtain ⟨rfl, N12q, K12, q12_0, q12_1, q12_2, q12_3, q12_4, q12_5⟩ := hQ12
  have N12 := Fr.app N10 N12q
  have O13 : Old Z n0 T12.heap := Old.keep O0 K12 (allS g_a6 (allS g_a3 all0))
  have K14 : Keep h0 T12.heap [a3, a6, a1] := (Keep.refl h0 [a3, a6, a1]).trans K12 (allS (Or.inl (List.mem_of_getElem? (i := 1) rfl)) (allS (Or.inl (List.mem_of_getElem? (i := 0) rfl)) all0))
  have t15 : Exa Z T12.heap a10 nPredec_4 := (E_a10.keep K12)
  obtain ⟨T16, X16, e16, st16⟩ := castY X12 hx hZ hown (wq hw 230 rfl) rfl (Ins.self t15) (g := (mkF m 151 #[.val (.ref a1), .val (.long j2), .second, .val (.int (0 : Int32)), .unset] [(.ref a10)])) rfl rfl (hb hby d_prog_22_method_12_151)
  have ne17 : a1 ≠ a3 := Exa.ne E_a1 E_a3 (by decide)
  have ne18 : a1 ≠ a6 := Exa.neArv E_a1 V_a6 (wq hw 32 rfl)
  have t19 : Fld Z T12.heap a1 nKnownO_3 "alsoNamed" nList_8 (.ref a3) := (F_a1_alsoNamed.keep K12 (ninS ne18 (ninS ne17 nin0)))
  obtain ⟨T20, X20, e20, st20⟩ := getF X16 hx hZ hown (host := "") (Or.inl (wq hw 156 rfl)) Via.refl e16 t19 (g := (mkF m 157 #[.val (.ref a1), .val (.long j2), .second, .val (.int (0 : Int32)), .val (.ref a10)] [(.ref a1)])) rfl rfl (hb hby d_prog_22_method_12_157)
  obtain ⟨cq21, kq21, q21a, q21b, q21c⟩ := isOf hZ e20 (q12_2)
  obtain ⟨_, _, ⟨T21, L21, k21, n21⟩, -, X21, ⟨Lc21, hQ21, l21, y21, z21⟩, st21⟩ := X20.interfaceBack hx (xi := my_25) (y := my_23) hown (mvT hZ (wq hw 253 rfl)) (mvT hZ (wq hw 254 rfl)) (mvT hZ (wq hw 255 rfl)) (mvT hZ (wq hw 256 rfl)) (mvT hZ (wq hw 257 rfl)) (mvT hZ (wq hw 258 rfl)) (mvT hZ (wq hw 259 rfl)) (mvT hZ (wq hw 190 rfl)) (by decide) (backOf (W := 0) (rc27_isEmpty l Z a0 hw [] cs aE hS a3 T12.heap n0 O13 g_a3 q12_5) hZ (wq hw 260 rfl) (wq hw 160 rfl) (by decide) (by decide)) q21a q21b q21c (g := (mkF m 160 #[.val (.ref a1), .val (.long j2), .second, .val (.int (0 : Int32)), .val (.ref a10)] [(.ref a3)])) rfl (by rw [hml]; rfl) (Steps.refl _) (argsL := []) (rest := []) (lenOf pd_14 rfl) rfl (by show 2 * 0 + _ ≤ _; exact Nat.le_of_eq rfl) (hb hby d_prog_22_method_12_160) (fun _ _ => ⟨rfl, e20, (by decide : 0 + 0 ≤ _), (by decide : 0 + 0 ≤ _)⟩)
  dsimp only [Pt.U, Pt.locs, Pt.cells, Pt.slots] at X21 l21 y21 z21 st21 hQ21
  have X21 := own_to X21 l21 y21 z21
  obtain ⟨rfl, N21q, e21⟩ := hQ21
  have N21 := Fr.app N12 N21q
  have t22 : Exa Z T12.heap a1 nKnownO_3 := (E_a1.keep K12)
  obtain ⟨T23, h23, X23, e23, W23, st23⟩ := putF X21 hx hZ hown (host := "") (Or.inl (wq hw 156 rfl)) Via.refl e21 t19 t22 (Or.inl (wq hw 157 rfl)) (wq hw 32 rfl) (ty := (.object "java/util/List")) (by decide) rfl rfl (g := (mkF m 170 #[.val (.ref a1), .val (.long j2), .second, .val (.int (0 : Int32)), .val (.ref a10)] [.null, (.ref a1)])) rfl rfl (hb hby d_prog_22_method_12_170)
  have f24 : Fld Z h23 a1 nKnownO_3 "alsoNamed" nList_8 .null := t19.same W23
  have N23 := Fr.snoc X23 N21 g_a1
  have O25 : Old Z n0 h23 := Old.wr O13 W23 g_a1
  have K26 : Keep h0 h23 [a3, a6, a1] := K14.wr W23 (Or.inl (List.mem_of_getElem? (i := 2) rfl))
  have t27 : Exa Z h23 a3 nArrayL_9 := (q12_2.wr W23)
  have t28 : Fld Z h23 a3 nArrayL_9 "elementData" nObject_10 (.ref a6) := (q12_3.other W23 (Or.inl (Ne.symm ne17)))
  have t29 : Fld Z h23 a3 nAbstra_11 "modCount" "I" (.int (i7 + (1 : Int32))) := (q12_4.other W23 (Or.inl (Ne.symm ne17)))
  have t30 : Fld Z h23 a3 nArrayL_9 "size" "I" (.int (0 : Int32)) := (q12_5.other W23 (Or.inl (Ne.symm ne17)))
  have t31 : Arv Z h23 a6 cid9 (.object nObject_12) (1 : Int32) [.null] .null := (q12_0.other W23 (Ne.symm ne18))
  have t32 : Exa Z h23 a1 nKnownO_3 := (t22.wr W23)
  have t33 : Fld Z h23 a1 nKnownO_3 "named" nPredec_7 (.ref a4) := ((F_a1_named.keep K12 (ninS ne18 (ninS ne17 nin0))).other W23 (Or.inr (slot_ne (Or.inl (wq hw 129 rfl)) (Or.inl (wq hw 157 rfl)) (by decide) (t := (.object nPredec_4)) (t' := (.object "java/util/List")) (by decide) (by decide))))
  have t34 : Fld Z h23 a1 nKnownO_3 "namedSeq" "J" (.long j5) := ((F_a1_namedSeq.keep K12 (ninS ne18 (ninS ne17 nin0))).other W23 (Or.inr (slot_ne (Or.inl (wq hw 155 rfl)) (Or.inl (wq hw 157 rfl)) (by decide) (t := .long) (t' := (.object "java/util/List")) (by decide) (by decide))))
  obtain ⟨fs, hr, hrun, hended, hW, hsame⟩ := X23.leave (v := (some (.ref a10))) (fun h => by rw [Bd.returns] at h; cases h)
  refine ⟨_, _, pre0 _ ?_, hrun, hended, _, _, rfl, ?_, ⟨_, rfl⟩, hW, hsame.mono (by decide) (by decide)⟩
  · refine XS.aloadN X0.here hx rfl (hb hby d_prog_22_method_12_0) rfl rfl ?_
    refine st1 _ ?_
    refine XS.ifnonnullYes X1.here hx rfl (pc0 := 4) (pc' := 9) rfl (hb hby d_prog_22_method_12_4) rfl (by decide) (by decide) ?_
    refine XS.aloadN X1.here hx rfl (hb hby d_prog_22_method_12_9) rfl rfl ?_
    refine st2 _ ?_
    refine XS.lloadN X2.here hx rfl (hb hby d_prog_22_method_12_13) rfl ?_
    refine XS.lcmp X2.here hx rfl (hb hby d_prog_22_method_12_14) rfl ?_
    refine XS.ifYes X2.here hx rfl (pc0 := 15) (pc' := 95) rfl (hb hby d_prog_22_method_12_15) rfl ((if0 _ _).trans (feq (fun q => hy0 ((lw_eq _ _).mp q))).2) (by decide) (by decide) ?_
    refine XS.aloadN X2.here hx rfl (hb hby d_prog_22_method_12_95) rfl rfl ?_
    refine st3 _ ?_
    refine XS.ifnullNo X3.here hx rfl (hb hby d_prog_22_method_12_99) rfl ?_
    refine XS.iconst X3.here hx rfl (hb hby d_prog_22_method_12_102) ?_
    refine XS.istoreN X3.here hx rfl (hb hby d_prog_22_method_12_103) rfl (l' := #[.val (.ref a1), .val (.long j2), .second, .val (.int (0 : Int32)), .unset]) rfl ?_
    refine XS.iloadN X3.here hx rfl (hb hby d_prog_22_method_12_104) rfl ?_
    refine XS.aloadN X3.here hx rfl (hb hby d_prog_22_method_12_105) rfl rfl ?_
    refine st4 _ ?_
    refine st5.trans ?_
    refine XS.icmpNo X5.here hx rfl (hb hby d_prog_22_method_12_114) rfl (tlt (by decide : (0 : Int32) < (1 : Int32))).2.1 ?_
    refine XS.aloadN X5.here hx rfl (hb hby d_prog_22_method_12_117) rfl rfl ?_
    refine st6 _ ?_
    refine XS.iloadN X6.here hx rfl (hb hby d_prog_22_method_12_121) rfl ?_
    refine st7.trans ?_
    refine st8 _ ?_
    refine st9.trans ?_
    refine st10.trans ?_
    refine XS.lloadN X10.here hx rfl (hb hby d_prog_22_method_12_136) rfl ?_
    refine XS.lcmp X10.here hx rfl (hb hby d_prog_22_method_12_137) rfl ?_
    refine XS.ifNo X10.here hx rfl (hb hby d_prog_22_method_12_138) rfl ((if0 _ _).trans (teq ((lw_eq _ _).mpr rfl)).2) ?_
    refine XS.aloadN X10.here hx rfl (hb hby d_prog_22_method_12_141) rfl rfl ?_
    refine st11 _ ?_
    refine XS.iloadN X11.here hx rfl (hb hby d_prog_22_method_12_145) rfl ?_
    refine st12.trans ?_
    refine st16 _ ?_
    refine XS.astore X16.here hx rfl (hb hby d_prog_22_method_12_154) rfl rfl (l' := #[.val (.ref a1), .val (.long j2), .second, .val (.int (0 : Int32)), .val (.ref a10)]) rfl ?_
    refine XS.aloadN X16.here hx rfl (hb hby d_prog_22_method_12_156) rfl rfl ?_
    refine st20 _ ?_
    refine st21.trans ?_
    refine XS.ifNo X21.here hx rfl (hb hby d_prog_22_method_12_165) rfl ((if0 _ _).trans (feq (by decide : ¬ ((1 : Int32) = (0 : Int32)))).1) ?_
    refine XS.aloadN X21.here hx rfl (hb hby d_prog_22_method_12_168) rfl rfl ?_
    refine XS.aconstNull X21.here hx rfl (hb hby d_prog_22_method_12_169) ?_
    refine st23 _ ?_
    refine XS.aload X23.here hx rfl (hb hby d_prog_22_method_12_173) rfl rfl ?_
    exact retOut X23 hx Bd.returns rfl (Or.inr (Or.inr (Or.inr (Or.inr ⟨rfl, rfl, rfl⟩)))) (hb hby d_prog_22_method_12_175) hr
  · show Q_rc28_unname Z aE a1 j2 a3 a4 j5 a6 i7 cid9 a10 a11 h0 n0 _ T23.heap _
    rw [e23]
    exact ⟨rfl, N23, K26, t27, t28, t29, t30, t31, q12_1, t32, f24, t33, t34⟩
set_option maxRecDepth 65536 in
set_option maxHeartbeats 40000000 in
theorem rs_N_AB_3 (l : Launch) (Z : State) (a0 : Array Value) (hw : ∀ d ∈ tables_1, d.before a0 Z = true) (ws : List Jvm.Cond) (cs : Int32) (aE : Addr) (hS : SB Z cs aE) (k pA mA : Addr) (sa : Int64) (pB mB : Addr) (sb : Int64) (h0 : Heap) (n0 : Nat) (O0 : Old Z n0 h0) (hq : ¬ sa = sb) (hFB : FB Z n0 h0 k pA mA sa pB mB sb) (hKS : KS2 Z n0 h0 k pA sa pB) :
    Met l my_4 method_3_code 10 (some .int) ws ({ frames := 5, cells := 2, slots := 4, locals := 67 } : Room) #[(.ref k), (.int (3 : Int32)), (.ref pA), (.ref pB), (.long sa), (.long sb), (.int (0 : Int32)), (.int (3 : Int32))] Z h0 (QSN Z k pA mA sa pB mB sb h0 n0) := by
  refine MetFree.of_bodySF (plainFor_of_name pn_3) hisR ?_
  intro p e s m args below meth c s₁ Bd hml0 hP hK
  obtain ⟨rfl, hZ, hh⟩ := hP
  have hx := Bd.exec
  have hby := Bd.bytes
  have hml : c.maxLocals = 10 := hml0
  have hown : s.vm.findClass nKnownO_13 = some m.cls := findClass_of_methodNamed Bd.named
  have hnm := (name_of_methodNamed Bd.named Bd.method).1
  have X0 : Stand p l e ({ frames := 5, cells := 2, slots := 4, locals := 67 } : Room) s m #[(.ref k), (.int (3 : Int32)), (.ref pA), (.ref pB), (.long sa), (.long sb), (.int (0 : Int32)), (.int (3 : Int32))] below meth c s₁ [] 0 0 := Stand.of_body Bd
  have e0 : s₁.heap = h0 := by rw [← hh, Bd.state]; rfl
  have N0 := Fr.nil n0
  obtain ⟨f₀, hf₀⟩ : ∃ f, f = entryFrame m #[(.ref k), (.int (3 : Int32)), (.ref pA), (.ref pB), (.long sa), (.long sb), (.int (0 : Int32)), (.int (3 : Int32))] 10 := ⟨_, rfl⟩
  rw [← hf₀]
  have pre0 : Go p e below s₁ f₀ s₁ (mkF m 0 #[.val (.ref k), .val (.int (3 : Int32)), .val (.ref pA), .val (.ref pB), .val (.long sa), .second, .val (.long sb), .second, .val (.int (0 : Int32)), .val (.int (3 : Int32))] []) := fun t kk => castTop (hf₀.trans (ef_rs_N_AB_3 m (k) ((3 : Int32)) (pA) (pB) (sa) (sb) ((0 : Int32)) ((3 : Int32)))) kk
  obtain ⟨Ek, gk, EpA, FpA, EmA, FmA, EpB, FpB, EmB, FmB⟩ := hFB
  obtain ⟨L, E, ce, mc, KN1, KN2, KN3, EL, FL1, FL2, FL3, VE, OE, gL, gE⟩ := hKS
  obtain ⟨cq1, kq1, q1a, q1b, q1c⟩ := isOf hZ e0 (Ek)
  obtain ⟨_, _, ⟨T1, L1, k1, n1⟩, -, X1, ⟨Lc1, hQ1, l1, y1, z1⟩, st1⟩ := X0.virtualBack hx (y := my_5) (z := my_5) hown (mvT hZ (wq hw 134 rfl)) (mvT hZ (wq hw 135 rfl)) (notFace_of_selects (args := #[]) (mvT hZ (wq hw 137 rfl))) (mvT hZ (wq hw 137 rfl)) (mvT hZ (wq hw 136 rfl)) (by decide) (backOf (W := 0) (rc28_unname l Z a0 hw [] cs aE hS k sb L pA sa E mc ce pB mB h0 n0 O0 gk gL gE Ek KN3 KN1 KN2 EL FL2 FL3 FL1 VE OE EpB FpB EmB FmB hq) hZ (wq hw 138 rfl) (wq hw 33 rfl) (by decide) (by decide)) q1a q1c (g := (mkF m 78 #[.val (.ref k), .val (.int (3 : Int32)), .val (.ref pA), .val (.ref pB), .val (.long sa), .second, .val (.long sb), .second, .val (.int (0 : Int32)), .val (.int (3 : Int32))] [(.long sb), (.ref k)])) rfl (by rw [hml]; rfl) (Steps.refl _) (argsL := [(.long sb)]) (rest := []) (lenOf pd_3 rfl) rfl (by show 2 * 0 + _ ≤ _; exact Nat.le_of_eq rfl) (hb hby d_method_3_78) (fun _ _ => ⟨rfl, e0, (by decide : 0 + 0 ≤ _), (by decide : 0 + 0 ≤ _)⟩)
  dsimp only [Pt.U, Pt.locs, Pt.cells, Pt.slots] at X1 l1 y1 z1 st1 hQ1
  have X1 := own_to X1 l1 y1 z1
  obtain ⟨rfl, N1q, K1, q1_0, q1_1, q1_2, q1_3, q1_4, q1_5, q1_6, q1_7, q1_8, q1_9⟩ := hQ1
  have N1 := Fr.app N0 N1q
  have O2 : Old Z n0 T1.heap := Old.keep O0 K1 (allS gL (allS gE (allS gk all0)))
  have K3 : Keep h0 T1.heap [k, L, E] := (Keep.refl h0 [k, L, E]).trans K1 (allS (Or.inl (List.mem_of_getElem? (i := 1) rfl)) (allS (Or.inl (List.mem_of_getElem? (i := 2) rfl)) (allS (Or.inl (List.mem_of_getElem? (i := 0) rfl)) all0)))
  have t4 : Exa Z T1.heap pA nPredec_4 := (EpA.keep K1)
  have ne5 : pA ≠ k := Exa.ne EpA Ek (by decide)
  have ne6 : pA ≠ E := Exa.neArv EpA VE (wq hw 62 rfl)
  have ne7 : pA ≠ L := Exa.ne EpA EL (by decide)
  have t8 : Fld Z T1.heap pA nPredec_4 "id" nMessag_5 (.ref mA) := (FpA.keep K1 (ninS ne7 (ninS ne6 (ninS ne5 nin0))))
  have t9 : Exa Z T1.heap mA nMessag_6 := (EmA.keep K1)
  have ne10 : mA ≠ k := Exa.ne EmA Ek (by decide)
  have ne11 : mA ≠ E := Exa.neArv EmA VE (wq hw 65 rfl)
  have ne12 : mA ≠ L := Exa.ne EmA EL (by decide)
  have t13 : Fld Z T1.heap mA nMessag_6 "seq" "J" (.long sa) := (FmA.keep K1 (ninS ne12 (ninS ne11 (ninS ne10 nin0))))
  have t14 : Exa Z T1.heap pB nPredec_4 := (EpB.keep K1)
  have ne15 : pB ≠ k := Exa.ne EpB Ek (by decide)
  have ne16 : pB ≠ E := Exa.neArv EpB VE (wq hw 62 rfl)
  have ne17 : pB ≠ L := Exa.ne EpB EL (by decide)
  have t18 : Fld Z T1.heap pB nPredec_4 "id" nMessag_5 (.ref mB) := (FpB.keep K1 (ninS ne17 (ninS ne16 (ninS ne15 nin0))))
  have t19 : Exa Z T1.heap mB nMessag_6 := (EmB.keep K1)
  have ne20 : mB ≠ k := Exa.ne EmB Ek (by decide)
  have ne21 : mB ≠ E := Exa.neArv EmB VE (wq hw 65 rfl)
  have ne22 : mB ≠ L := Exa.ne EmB EL (by decide)
  have t23 : Fld Z T1.heap mB nMessag_6 "seq" "J" (.long sb) := (FmB.keep K1 (ninS ne22 (ninS ne21 (ninS ne20 nin0))))
  obtain ⟨fs, hr, hrun, hended, hW, hsame⟩ := X1.leave (v := (some (.int (1 : Int32)))) (fun h => by rw [Bd.returns] at h; cases h)
  refine ⟨_, _, pre0 _ ?_, hrun, hended, _, _, rfl, ?_, ⟨_, rfl⟩, hW, hsame.mono (by decide) (by decide)⟩
  · refine XS.iloadN X0.here hx rfl (hb hby d_method_3_0) rfl ?_
    refine XS.ifYes X0.here hx rfl (pc0 := 1) (pc' := 24) rfl (hb hby d_method_3_1) rfl ((if0 _ _).trans (feq (by decide : ¬ ((3 : Int32) = (0 : Int32)))).2) (by decide) (by decide) ?_
    refine XS.iloadN X0.here hx rfl (hb hby d_method_3_24) rfl ?_
    refine XS.iconst X0.here hx rfl (hb hby d_method_3_25) ?_
    refine XS.icmpYes X0.here hx rfl (pc0 := 26) (pc' := 49) rfl (hb hby d_method_3_26) rfl (feq (by decide : ¬ ((3 : Int32) = (1 : Int32)))).2 (by decide) (by decide) ?_
    refine XS.iloadN X0.here hx rfl (hb hby d_method_3_49) rfl ?_
    refine XS.iconst X0.here hx rfl (hb hby d_method_3_50) ?_
    refine XS.icmpYes X0.here hx rfl (pc0 := 51) (pc' := 75) rfl (hb hby d_method_3_51) rfl (feq (by decide : ¬ ((3 : Int32) = (2 : Int32)))).2 (by decide) (by decide) ?_
    refine XS.aloadN X0.here hx rfl (hb hby d_method_3_75) rfl rfl ?_
    refine XS.lload X0.here hx rfl (hb hby d_method_3_76) rfl ?_
    refine st1.trans ?_
    refine XS.pop X1.here hx rfl (hb hby d_method_3_81) rfl rfl ?_
    refine XS.iload X1.here hx rfl (hb hby d_method_3_82) rfl ?_
    refine XS.iload X1.here hx rfl (hb hby d_method_3_84) rfl ?_
    refine XS.ifYes X1.here hx rfl (pc0 := 86) (pc' := 93) rfl (hb hby d_method_3_86) rfl ((if0 _ _).trans (teq (by decide : (0 : Int32) = (0 : Int32))).1) (by decide) (by decide) ?_
    refine XS.iconst X1.here hx rfl (hb hby d_method_3_93) ?_
    refine XS.iand X1.here hx rfl (hb hby d_method_3_94) rfl ?_
    show Steps p.tables e below (T1.setTop (mkF m 95 #[.val (.ref k), .val (.int (3 : Int32)), .val (.ref pA), .val (.ref pB), .val (.long sa), .second, .val (.long sb), .second, .val (.int (0 : Int32)), .val (.int (3 : Int32))] [(.int (1 : Int32))])) _
    exact retI X1 hx Bd.returns (hb hby d_method_3_95) hr
  · show QSN Z k pA mA sa pB mB sb h0 n0 _ T1.heap _
    exact ⟨_, rfl, N1, K3.1, O2, ⟨q1_6, gk, t4, t8, t9, t13, t14, t18, t19, t23⟩, Or.inr (Or.inl ⟨rfl, ⟨q1_8, q1_9, q1_7⟩⟩)⟩
set_option maxRecDepth 65536 in
set_option maxHeartbeats 40000000 in
theorem rs_N_BA_0 (l : Launch) (Z : State) (a0 : Array Value) (hw : ∀ d ∈ tables_1, d.before a0 Z = true) (ws : List Jvm.Cond) (cs : Int32) (aE : Addr) (hS : SB Z cs aE) (k pA mA : Addr) (sa : Int64) (pB mB : Addr) (sb : Int64) (h0 : Heap) (n0 : Nat) (O0 : Old Z n0 h0) (hq : ¬ sa = sb) (hFB : FB Z n0 h0 k pA mA sa pB mB sb) (hKS : KS2 Z n0 h0 k pB sb pA) :
    Met l my_4 method_3_code 10 (some .int) ws ({ frames := 5, cells := 2, slots := 4, locals := 67 } : Room) #[(.ref k), (.int (0 : Int32)), (.ref pA), (.ref pB), (.long sa), (.long sb), (.int (0 : Int32)), (.int (3 : Int32))] Z h0 (QSN Z k pA mA sa pB mB sb h0 n0) := by
  refine MetFree.of_bodySF (plainFor_of_name pn_3) hisR ?_
  intro p e s m args below meth c s₁ Bd hml0 hP hK
  obtain ⟨rfl, hZ, hh⟩ := hP
  have hx := Bd.exec
  have hby := Bd.bytes
  have hml : c.maxLocals = 10 := hml0
  have hown : s.vm.findClass nKnownO_13 = some m.cls := findClass_of_methodNamed Bd.named
  have hnm := (name_of_methodNamed Bd.named Bd.method).1
  have X0 : Stand p l e ({ frames := 5, cells := 2, slots := 4, locals := 67 } : Room) s m #[(.ref k), (.int (0 : Int32)), (.ref pA), (.ref pB), (.long sa), (.long sb), (.int (0 : Int32)), (.int (3 : Int32))] below meth c s₁ [] 0 0 := Stand.of_body Bd
  have e0 : s₁.heap = h0 := by rw [← hh, Bd.state]; rfl
  have N0 := Fr.nil n0
  obtain ⟨f₀, hf₀⟩ : ∃ f, f = entryFrame m #[(.ref k), (.int (0 : Int32)), (.ref pA), (.ref pB), (.long sa), (.long sb), (.int (0 : Int32)), (.int (3 : Int32))] 10 := ⟨_, rfl⟩
  rw [← hf₀]
  have pre0 : Go p e below s₁ f₀ s₁ (mkF m 0 #[.val (.ref k), .val (.int (0 : Int32)), .val (.ref pA), .val (.ref pB), .val (.long sa), .second, .val (.long sb), .second, .val (.int (0 : Int32)), .val (.int (3 : Int32))] []) := fun t kk => castTop (hf₀.trans (ef_rs_N_BA_0 m (k) ((0 : Int32)) (pA) (pB) (sa) (sb) ((0 : Int32)) ((3 : Int32)))) kk
  obtain ⟨Ek, gk, EpA, FpA, EmA, FmA, EpB, FpB, EmB, FmB⟩ := hFB
  obtain ⟨L, E, ce, mc, KN1, KN2, KN3, EL, FL1, FL2, FL3, VE, OE, gL, gE⟩ := hKS
  obtain ⟨cq1, kq1, q1a, q1b, q1c⟩ := isOf hZ e0 (Ek)
  obtain ⟨_, _, ⟨T1, L1, k1, n1⟩, -, X1, ⟨Lc1, hQ1, l1, y1, z1⟩, st1⟩ := X0.virtualBack hx (y := my_3) (z := my_3) hown (mvT hZ (wq hw 139 rfl)) (mvT hZ (wq hw 140 rfl)) (notFace_of_selects (args := #[]) (mvT hZ (wq hw 142 rfl))) (mvT hZ (wq hw 142 rfl)) (mvT hZ (wq hw 141 rfl)) (by decide) (backOf (W := 0) (rc17_name l Z a0 hw [] cs aE hS k pA L pB sb mA E sa ce h0 n0 O0 gk gL gE KN3 KN1 KN2 EpA FpA EL FL2 FL1 EmA FmA VE OE (fun q => hq (Eq.symm q))) hZ (wq hw 143 rfl) (wq hw 33 rfl) (by decide) (by decide)) q1a q1c (g := (mkF m 6 #[.val (.ref k), .val (.int (0 : Int32)), .val (.ref pA), .val (.ref pB), .val (.long sa), .second, .val (.long sb), .second, .val (.int (0 : Int32)), .val (.int (3 : Int32))] [(.ref pA), (.ref k)])) rfl (by rw [hml]; rfl) (Steps.refl _) (argsL := [(.ref pA)]) (rest := []) (lenOf pd_2 rfl) rfl (by show 2 * 0 + _ ≤ _; exact Nat.le_of_eq rfl) (hb hby d_method_3_6) (fun _ _ => ⟨rfl, e0, (by decide : 0 + 0 ≤ _), (by decide : 0 + 0 ≤ _)⟩)
  dsimp only [Pt.U, Pt.locs, Pt.cells, Pt.slots] at X1 l1 y1 z1 st1 hQ1
  have X1 := own_to X1 l1 y1 z1
  obtain ⟨rfl, N1q, K1, q1_0, q1_1⟩ := hQ1
  have N1 := Fr.app N0 N1q
  have O2 : Old Z n0 T1.heap := Old.keep O0 K1 (allS gE all0)
  have K3 : Keep h0 T1.heap [k, L, E] := (Keep.refl h0 [k, L, E]).trans K1 (allS (Or.inl (List.mem_of_getElem? (i := 2) rfl)) all0)
  have t4 : Exa Z T1.heap k nKnownO_3 := (Ek.keep K1)
  have t5 : Exa Z T1.heap pA nPredec_4 := (EpA.keep K1)
  have ne6 : pA ≠ E := Exa.neArv EpA VE (wq hw 62 rfl)
  have t7 : Fld Z T1.heap pA nPredec_4 "id" nMessag_5 (.ref mA) := (FpA.keep K1 (ninS ne6 nin0))
  have t8 : Exa Z T1.heap mA nMessag_6 := (EmA.keep K1)
  have ne9 : mA ≠ E := Exa.neArv EmA VE (wq hw 65 rfl)
  have t10 : Fld Z T1.heap mA nMessag_6 "seq" "J" (.long sa) := (FmA.keep K1 (ninS ne9 nin0))
  have t11 : Exa Z T1.heap pB nPredec_4 := (EpB.keep K1)
  have ne12 : pB ≠ E := Exa.neArv EpB VE (wq hw 62 rfl)
  have t13 : Fld Z T1.heap pB nPredec_4 "id" nMessag_5 (.ref mB) := (FpB.keep K1 (ninS ne12 nin0))
  have t14 : Exa Z T1.heap mB nMessag_6 := (EmB.keep K1)
  have ne15 : mB ≠ E := Exa.neArv EmB VE (wq hw 65 rfl)
  have t16 : Fld Z T1.heap mB nMessag_6 "seq" "J" (.long sb) := (FmB.keep K1 (ninS ne15 nin0))
  have ne17 : k ≠ E := Exa.neArv Ek VE (wq hw 32 rfl)
  have t18 : Fld Z T1.heap k nKnownO_3 "named" nPredec_7 (.ref pB) := (KN1.keep K1 (ninS ne17 nin0))
  have t19 : Fld Z T1.heap k nKnownO_3 "namedSeq" "J" (.long sb) := (KN2.keep K1 (ninS ne17 nin0))
  have t20 : Fld Z T1.heap k nKnownO_3 "alsoNamed" nList_8 (.ref L) := (KN3.keep K1 (ninS ne17 nin0))
  have t21 : Exa Z T1.heap L nArrayL_9 := (EL.keep K1)
  have ne22 : L ≠ E := Exa.neArv EL VE (wq hw 159 rfl)
  have t23 : Fld Z T1.heap L nArrayL_9 "size" "I" (.int (1 : Int32)) := (FL1.keep K1 (ninS ne22 nin0))
  have t24 : Fld Z T1.heap L nArrayL_9 "elementData" nObject_10 (.ref E) := (FL2.keep K1 (ninS ne22 nin0))
  have t25 : Fld Z T1.heap L nAbstra_11 "modCount" "I" (.int mc) := (FL3.keep K1 (ninS ne22 nin0))
  obtain ⟨fs, hr, hrun, hended, hW, hsame⟩ := X1.leave (v := (some (.int (3 : Int32)))) (fun h => by rw [Bd.returns] at h; cases h)
  refine ⟨_, _, pre0 _ ?_, hrun, hended, _, _, rfl, ?_, ⟨_, rfl⟩, hW, hsame.mono (by decide) (by decide)⟩
  · refine XS.iloadN X0.here hx rfl (hb hby d_method_3_0) rfl ?_
    refine XS.ifNo X0.here hx rfl (hb hby d_method_3_1) rfl ((if0 _ _).trans (teq (by decide : (0 : Int32) = (0 : Int32))).2) ?_
    refine XS.aloadN X0.here hx rfl (hb hby d_method_3_4) rfl rfl ?_
    refine XS.aloadN X0.here hx rfl (hb hby d_method_3_5) rfl rfl ?_
    refine st1.trans ?_
    refine XS.pop X1.here hx rfl (hb hby d_method_3_9) rfl rfl ?_
    refine XS.iload X1.here hx rfl (hb hby d_method_3_10) rfl ?_
    refine XS.iload X1.here hx rfl (hb hby d_method_3_12) rfl ?_
    refine XS.ifYes X1.here hx rfl (pc0 := 14) (pc' := 21) rfl (hb hby d_method_3_14) rfl ((if0 _ _).trans (teq (by decide : (0 : Int32) = (0 : Int32))).1) (by decide) (by decide) ?_
    refine XS.iconst X1.here hx rfl (hb hby d_method_3_21) ?_
    refine XS.ior X1.here hx rfl (hb hby d_method_3_22) rfl ?_
    show Steps p.tables e below (T1.setTop (mkF m 23 #[.val (.ref k), .val (.int (0 : Int32)), .val (.ref pA), .val (.ref pB), .val (.long sa), .second, .val (.long sb), .second, .val (.int (0 : Int32)), .val (.int (3 : Int32))] [(.int (3 : Int32))])) _
    exact retI X1 hx Bd.returns (hb hby d_method_3_23) hr
  · show QSN Z k pA mA sa pB mB sb h0 n0 _ T1.heap _
    exact ⟨_, rfl, N1, K3.1, O2, ⟨t4, gk, t5, t7, t8, t10, t11, t13, t14, t16⟩, Or.inr (Or.inr (Or.inr (Or.inr (⟨rfl, ⟨L, E, ce, _, t18, t19, t20, t21, t23, t24, t25, q1_0, q1_1, gL, gE⟩⟩))))⟩
set_option maxRecDepth 65536 in
set_option maxHeartbeats 40000000 in
theorem rs_N_BA_1 (l : Launch) (Z : State) (a0 : Array Value) (hw : ∀ d ∈ tables_1, d.before a0 Z = true) (ws : List Jvm.Cond) (cs : Int32) (aE : Addr) (hS : SB Z cs aE) (k pA mA : Addr) (sa : Int64) (pB mB : Addr) (sb : Int64) (h0 : Heap) (n0 : Nat) (O0 : Old Z n0 h0) (hq : ¬ sa = sb) (hFB : FB Z n0 h0 k pA mA sa pB mB sb) (hKS : KS2 Z n0 h0 k pB sb pA) :
    Met l my_4 method_3_code 10 (some .int) ws ({ frames := 5, cells := 2, slots := 4, locals := 67 } : Room) #[(.ref k), (.int (1 : Int32)), (.ref pA), (.ref pB), (.long sa), (.long sb), (.int (0 : Int32)), (.int (3 : Int32))] Z h0 (QSN Z k pA mA sa pB mB sb h0 n0) := by
  refine MetFree.of_bodySF (plainFor_of_name pn_3) hisR ?_
  intro p e s m args below meth c s₁ Bd hml0 hP hK
  obtain ⟨rfl, hZ, hh⟩ := hP
  have hx := Bd.exec
  have hby := Bd.bytes
  have hml : c.maxLocals = 10 := hml0
  have hown : s.vm.findClass nKnownO_13 = some m.cls := findClass_of_methodNamed Bd.named
  have hnm := (name_of_methodNamed Bd.named Bd.method).1
  have X0 : Stand p l e ({ frames := 5, cells := 2, slots := 4, locals := 67 } : Room) s m #[(.ref k), (.int (1 : Int32)), (.ref pA), (.ref pB), (.long sa), (.long sb), (.int (0 : Int32)), (.int (3 : Int32))] below meth c s₁ [] 0 0 := Stand.of_body Bd
  have e0 : s₁.heap = h0 := by rw [← hh, Bd.state]; rfl
  have N0 := Fr.nil n0
  obtain ⟨f₀, hf₀⟩ : ∃ f, f = entryFrame m #[(.ref k), (.int (1 : Int32)), (.ref pA), (.ref pB), (.long sa), (.long sb), (.int (0 : Int32)), (.int (3 : Int32))] 10 := ⟨_, rfl⟩
  rw [← hf₀]
  have pre0 : Go p e below s₁ f₀ s₁ (mkF m 0 #[.val (.ref k), .val (.int (1 : Int32)), .val (.ref pA), .val (.ref pB), .val (.long sa), .second, .val (.long sb), .second, .val (.int (0 : Int32)), .val (.int (3 : Int32))] []) := fun t kk => castTop (hf₀.trans (ef_rs_N_BA_1 m (k) ((1 : Int32)) (pA) (pB) (sa) (sb) ((0 : Int32)) ((3 : Int32)))) kk
  obtain ⟨Ek, gk, EpA, FpA, EmA, FmA, EpB, FpB, EmB, FmB⟩ := hFB
  obtain ⟨L, E, ce, mc, KN1, KN2, KN3, EL, FL1, FL2, FL3, VE, OE, gL, gE⟩ := hKS
  obtain ⟨cq1, kq1, q1a, q1b, q1c⟩ := isOf hZ e0 (Ek)
  obtain ⟨_, _, ⟨T1, L1, k1, n1⟩, -, X1, ⟨Lc1, hQ1, l1, y1, z1⟩, st1⟩ := X0.virtualBack hx (y := my_3) (z := my_3) hown (mvT hZ (wq hw 139 rfl)) (mvT hZ (wq hw 140 rfl)) (notFace_of_selects (args := #[]) (mvT hZ (wq hw 142 rfl))) (mvT hZ (wq hw 142 rfl)) (mvT hZ (wq hw 141 rfl)) (by decide) (backOf (W := 0) (rc16_name l Z a0 hw [] cs aE hS k pB L sb mB h0 n0 O0 gk gL Ek KN3 KN1 KN2 EpB FpB EmB FmB) hZ (wq hw 143 rfl) (wq hw 33 rfl) (by decide) (by decide)) q1a q1c (g := (mkF m 31 #[.val (.ref k), .val (.int (1 : Int32)), .val (.ref pA), .val (.ref pB), .val (.long sa), .second, .val (.long sb), .second, .val (.int (0 : Int32)), .val (.int (3 : Int32))] [(.ref pB), (.ref k)])) rfl (by rw [hml]; rfl) (Steps.refl _) (argsL := [(.ref pB)]) (rest := []) (lenOf pd_2 rfl) rfl (by show 2 * 0 + _ ≤ _; exact Nat.le_of_eq rfl) (hb hby d_method_3_31) (fun _ _ => ⟨rfl, e0, (by decide : 0 + 0 ≤ _), (by decide : 0 + 0 ≤ _)⟩)
  dsimp only [Pt.U, Pt.locs, Pt.cells, Pt.slots] at X1 l1 y1 z1 st1 hQ1
  have X1 := own_to X1 l1 y1 z1
  obtain ⟨rfl, N1q, K1, q1_0, q1_1, q1_2, q1_3⟩ := hQ1
  have N1 := Fr.app N0 N1q
  have O2 : Old Z n0 T1.heap := Old.keep O0 K1 (allS gk all0)
  have K3 : Keep h0 T1.heap [k, L, E] := (Keep.refl h0 [k, L, E]).trans K1 (allS (Or.inl (List.mem_of_getElem? (i := 0) rfl)) all0)
  have t4 : Exa Z T1.heap pA nPredec_4 := (EpA.keep K1)
  have ne5 : pA ≠ k := Exa.ne EpA Ek (by decide)
  have t6 : Fld Z T1.heap pA nPredec_4 "id" nMessag_5 (.ref mA) := (FpA.keep K1 (ninS ne5 nin0))
  have t7 : Exa Z T1.heap mA nMessag_6 := (EmA.keep K1)
  have ne8 : mA ≠ k := Exa.ne EmA Ek (by decide)
  have t9 : Fld Z T1.heap mA nMessag_6 "seq" "J" (.long sa) := (FmA.keep K1 (ninS ne8 nin0))
  have t10 : Exa Z T1.heap pB nPredec_4 := (EpB.keep K1)
  have ne11 : pB ≠ k := Exa.ne EpB Ek (by decide)
  have t12 : Fld Z T1.heap pB nPredec_4 "id" nMessag_5 (.ref mB) := (FpB.keep K1 (ninS ne11 nin0))
  have t13 : Exa Z T1.heap mB nMessag_6 := (EmB.keep K1)
  have ne14 : mB ≠ k := Exa.ne EmB Ek (by decide)
  have t15 : Fld Z T1.heap mB nMessag_6 "seq" "J" (.long sb) := (FmB.keep K1 (ninS ne14 nin0))
  have t16 : Exa Z T1.heap L nArrayL_9 := (EL.keep K1)
  have ne17 : L ≠ k := Exa.ne EL Ek (by decide)
  have t18 : Fld Z T1.heap L nArrayL_9 "size" "I" (.int (1 : Int32)) := (FL1.keep K1 (ninS ne17 nin0))
  have t19 : Fld Z T1.heap L nArrayL_9 "elementData" nObject_10 (.ref E) := (FL2.keep K1 (ninS ne17 nin0))
  have t20 : Fld Z T1.heap L nAbstra_11 "modCount" "I" (.int mc) := (FL3.keep K1 (ninS ne17 nin0))
  have ne21 : E ≠ k := Ne.symm (Exa.neArv Ek VE (wq hw 32 rfl))
  have t22 : Arv Z T1.heap E ce (.object nObject_12) (1 : Int32) [(.ref pA)] .null := (VE.keep K1 (ninS ne21 nin0))
  obtain ⟨fs, hr, hrun, hended, hW, hsame⟩ := X1.leave (v := (some (.int (3 : Int32)))) (fun h => by rw [Bd.returns] at h; cases h)
  refine ⟨_, _, pre0 _ ?_, hrun, hended, _, _, rfl, ?_, ⟨_, rfl⟩, hW, hsame.mono (by decide) (by decide)⟩
  · refine XS.iloadN X0.here hx rfl (hb hby d_method_3_0) rfl ?_
    refine XS.ifYes X0.here hx rfl (pc0 := 1) (pc' := 24) rfl (hb hby d_method_3_1) rfl ((if0 _ _).trans (feq (by decide : ¬ ((1 : Int32) = (0 : Int32)))).2) (by decide) (by decide) ?_
    refine XS.iloadN X0.here hx rfl (hb hby d_method_3_24) rfl ?_
    refine XS.iconst X0.here hx rfl (hb hby d_method_3_25) ?_
    refine XS.icmpNo X0.here hx rfl (hb hby d_method_3_26) rfl (teq (by decide : (1 : Int32) = (1 : Int32))).2 ?_
    refine XS.aloadN X0.here hx rfl (hb hby d_method_3_29) rfl rfl ?_
    refine XS.aloadN X0.here hx rfl (hb hby d_method_3_30) rfl rfl ?_
    refine st1.trans ?_
    refine XS.pop X1.here hx rfl (hb hby d_method_3_34) rfl rfl ?_
    refine XS.iload X1.here hx rfl (hb hby d_method_3_35) rfl ?_
    refine XS.iload X1.here hx rfl (hb hby d_method_3_37) rfl ?_
    refine XS.ifYes X1.here hx rfl (pc0 := 39) (pc' := 46) rfl (hb hby d_method_3_39) rfl ((if0 _ _).trans (teq (by decide : (0 : Int32) = (0 : Int32))).1) (by decide) (by decide) ?_
    refine XS.iconst X1.here hx rfl (hb hby d_method_3_46) ?_
    refine XS.ior X1.here hx rfl (hb hby d_method_3_47) rfl ?_
    show Steps p.tables e below (T1.setTop (mkF m 48 #[.val (.ref k), .val (.int (1 : Int32)), .val (.ref pA), .val (.ref pB), .val (.long sa), .second, .val (.long sb), .second, .val (.int (0 : Int32)), .val (.int (3 : Int32))] [(.int (3 : Int32))])) _
    exact retI X1 hx Bd.returns (hb hby d_method_3_48) hr
  · show QSN Z k pA mA sa pB mB sb h0 n0 _ T1.heap _
    exact ⟨_, rfl, N1, K3.1, O2, ⟨q1_0, gk, t4, t6, t7, t9, t10, t12, t13, t15⟩, Or.inr (Or.inr (Or.inr (Or.inr (⟨rfl, ⟨L, E, ce, _, q1_2, q1_3, q1_1, t16, t18, t19, t20, t22, OE, gL, gE⟩⟩))))⟩
set_option maxRecDepth 65536 in
set_option maxHeartbeats 40000000 in
theorem rs_N_BA_2 (l : Launch) (Z : State) (a0 : Array Value) (hw : ∀ d ∈ tables_1, d.before a0 Z = true) (ws : List Jvm.Cond) (cs : Int32) (aE : Addr) (hS : SB Z cs aE) (k pA mA : Addr) (sa : Int64) (pB mB : Addr) (sb : Int64) (h0 : Heap) (n0 : Nat) (O0 : Old Z n0 h0) (hq : ¬ sa = sb) (hFB : FB Z n0 h0 k pA mA sa pB mB sb) (hKS : KS2 Z n0 h0 k pB sb pA) :
    Met l my_4 method_3_code 10 (some .int) ws ({ frames := 5, cells := 2, slots := 4, locals := 67 } : Room) #[(.ref k), (.int (2 : Int32)), (.ref pA), (.ref pB), (.long sa), (.long sb), (.int (0 : Int32)), (.int (3 : Int32))] Z h0 (QSN Z k pA mA sa pB mB sb h0 n0) := by
  refine MetFree.of_bodySF (plainFor_of_name pn_3) hisR ?_
  intro p e s m args below meth c s₁ Bd hml0 hP hK
  obtain ⟨rfl, hZ, hh⟩ := hP
  have hx := Bd.exec
  have hby := Bd.bytes
  have hml : c.maxLocals = 10 := hml0
  have hown : s.vm.findClass nKnownO_13 = some m.cls := findClass_of_methodNamed Bd.named
  have hnm := (name_of_methodNamed Bd.named Bd.method).1
  have X0 : Stand p l e ({ frames := 5, cells := 2, slots := 4, locals := 67 } : Room) s m #[(.ref k), (.int (2 : Int32)), (.ref pA), (.ref pB), (.long sa), (.long sb), (.int (0 : Int32)), (.int (3 : Int32))] below meth c s₁ [] 0 0 := Stand.of_body Bd
  have e0 : s₁.heap = h0 := by rw [← hh, Bd.state]; rfl
  have N0 := Fr.nil n0
  obtain ⟨f₀, hf₀⟩ : ∃ f, f = entryFrame m #[(.ref k), (.int (2 : Int32)), (.ref pA), (.ref pB), (.long sa), (.long sb), (.int (0 : Int32)), (.int (3 : Int32))] 10 := ⟨_, rfl⟩
  rw [← hf₀]
  have pre0 : Go p e below s₁ f₀ s₁ (mkF m 0 #[.val (.ref k), .val (.int (2 : Int32)), .val (.ref pA), .val (.ref pB), .val (.long sa), .second, .val (.long sb), .second, .val (.int (0 : Int32)), .val (.int (3 : Int32))] []) := fun t kk => castTop (hf₀.trans (ef_rs_N_BA_2 m (k) ((2 : Int32)) (pA) (pB) (sa) (sb) ((0 : Int32)) ((3 : Int32)))) kk
  obtain ⟨Ek, gk, EpA, FpA, EmA, FmA, EpB, FpB, EmB, FmB⟩ := hFB
  obtain ⟨L, E, ce, mc, KN1, KN2, KN3, EL, FL1, FL2, FL3, VE, OE, gL, gE⟩ := hKS
  obtain ⟨cq1, kq1, q1a, q1b, q1c⟩ := isOf hZ e0 (Ek)
  obtain ⟨_, _, ⟨T1, L1, k1, n1⟩, -, X1, ⟨Lc1, hQ1, l1, y1, z1⟩, st1⟩ := X0.virtualBack hx (y := my_5) (z := my_5) hown (mvT hZ (wq hw 134 rfl)) (mvT hZ (wq hw 135 rfl)) (notFace_of_selects (args := #[]) (mvT hZ (wq hw 137 rfl))) (mvT hZ (wq hw 137 rfl)) (mvT hZ (wq hw 136 rfl)) (by decide) (backOf (W := 0) (rc28_unname l Z a0 hw [] cs aE hS k sa L pB sb E mc ce pA mA h0 n0 O0 gk gL gE Ek KN3 KN1 KN2 EL FL2 FL3 FL1 VE OE EpA FpA EmA FmA (fun q => hq (Eq.symm q))) hZ (wq hw 138 rfl) (wq hw 33 rfl) (by decide) (by decide)) q1a q1c (g := (mkF m 57 #[.val (.ref k), .val (.int (2 : Int32)), .val (.ref pA), .val (.ref pB), .val (.long sa), .second, .val (.long sb), .second, .val (.int (0 : Int32)), .val (.int (3 : Int32))] [(.long sa), (.ref k)])) rfl (by rw [hml]; rfl) (Steps.refl _) (argsL := [(.long sa)]) (rest := []) (lenOf pd_3 rfl) rfl (by show 2 * 0 + _ ≤ _; exact Nat.le_of_eq rfl) (hb hby d_method_3_57) (fun _ _ => ⟨rfl, e0, (by decide : 0 + 0 ≤ _), (by decide : 0 + 0 ≤ _)⟩)
  dsimp only [Pt.U, Pt.locs, Pt.cells, Pt.slots] at X1 l1 y1 z1 st1 hQ1
  have X1 := own_to X1 l1 y1 z1
  obtain ⟨rfl, N1q, K1, q1_0, q1_1, q1_2, q1_3, q1_4, q1_5, q1_6, q1_7, q1_8, q1_9⟩ := hQ1
  have N1 := Fr.app N0 N1q
  have O2 : Old Z n0 T1.heap := Old.keep O0 K1 (allS gL (allS gE (allS gk all0)))
  have K3 : Keep h0 T1.heap [k, L, E] := (Keep.refl h0 [k, L, E]).trans K1 (allS (Or.inl (List.mem_of_getElem? (i := 1) rfl)) (allS (Or.inl (List.mem_of_getElem? (i := 2) rfl)) (allS (Or.inl (List.mem_of_getElem? (i := 0) rfl)) all0)))
  have t4 : Exa Z T1.heap pA nPredec_4 := (EpA.keep K1)
  have ne5 : pA ≠ k := Exa.ne EpA Ek (by decide)
  have ne6 : pA ≠ E := Exa.neArv EpA VE (wq hw 62 rfl)
  have ne7 : pA ≠ L := Exa.ne EpA EL (by decide)
  have t8 : Fld Z T1.heap pA nPredec_4 "id" nMessag_5 (.ref mA) := (FpA.keep K1 (ninS ne7 (ninS ne6 (ninS ne5 nin0))))
  have t9 : Exa Z T1.heap mA nMessag_6 := (EmA.keep K1)
  have ne10 : mA ≠ k := Exa.ne EmA Ek (by decide)
  have ne11 : mA ≠ E := Exa.neArv EmA VE (wq hw 65 rfl)
  have ne12 : mA ≠ L := Exa.ne EmA EL (by decide)
  have t13 : Fld Z T1.heap mA nMessag_6 "seq" "J" (.long sa) := (FmA.keep K1 (ninS ne12 (ninS ne11 (ninS ne10 nin0))))
  have t14 : Exa Z T1.heap pB nPredec_4 := (EpB.keep K1)
  have ne15 : pB ≠ k := Exa.ne EpB Ek (by decide)
  have ne16 : pB ≠ E := Exa.neArv EpB VE (wq hw 62 rfl)
  have ne17 : pB ≠ L := Exa.ne EpB EL (by decide)
  have t18 : Fld Z T1.heap pB nPredec_4 "id" nMessag_5 (.ref mB) := (FpB.keep K1 (ninS ne17 (ninS ne16 (ninS ne15 nin0))))
  have t19 : Exa Z T1.heap mB nMessag_6 := (EmB.keep K1)
  have ne20 : mB ≠ k := Exa.ne EmB Ek (by decide)
  have ne21 : mB ≠ E := Exa.neArv EmB VE (wq hw 65 rfl)
  have ne22 : mB ≠ L := Exa.ne EmB EL (by decide)
  have t23 : Fld Z T1.heap mB nMessag_6 "seq" "J" (.long sb) := (FmB.keep K1 (ninS ne22 (ninS ne21 (ninS ne20 nin0))))
  obtain ⟨fs, hr, hrun, hended, hW, hsame⟩ := X1.leave (v := (some (.int (2 : Int32)))) (fun h => by rw [Bd.returns] at h; cases h)
  refine ⟨_, _, pre0 _ ?_, hrun, hended, _, _, rfl, ?_, ⟨_, rfl⟩, hW, hsame.mono (by decide) (by decide)⟩
  · refine XS.iloadN X0.here hx rfl (hb hby d_method_3_0) rfl ?_
    refine XS.ifYes X0.here hx rfl (pc0 := 1) (pc' := 24) rfl (hb hby d_method_3_1) rfl ((if0 _ _).trans (feq (by decide : ¬ ((2 : Int32) = (0 : Int32)))).2) (by decide) (by decide) ?_
    refine XS.iloadN X0.here hx rfl (hb hby d_method_3_24) rfl ?_
    refine XS.iconst X0.here hx rfl (hb hby d_method_3_25) ?_
    refine XS.icmpYes X0.here hx rfl (pc0 := 26) (pc' := 49) rfl (hb hby d_method_3_26) rfl (feq (by decide : ¬ ((2 : Int32) = (1 : Int32)))).2 (by decide) (by decide) ?_
    refine XS.iloadN X0.here hx rfl (hb hby d_method_3_49) rfl ?_
    refine XS.iconst X0.here hx rfl (hb hby d_method_3_50) ?_
    refine XS.icmpNo X0.here hx rfl (hb hby d_method_3_51) rfl (teq (by decide : (2 : Int32) = (2 : Int32))).2 ?_
    refine XS.aloadN X0.here hx rfl (hb hby d_method_3_54) rfl rfl ?_
    refine XS.lload X0.here hx rfl (hb hby d_method_3_55) rfl ?_
    refine st1.trans ?_
    refine XS.pop X1.here hx rfl (hb hby d_method_3_60) rfl rfl ?_
    refine XS.iload X1.here hx rfl (hb hby d_method_3_61) rfl ?_
    refine XS.iload X1.here hx rfl (hb hby d_method_3_63) rfl ?_
    refine XS.ifYes X1.here hx rfl (pc0 := 65) (pc' := 72) rfl (hb hby d_method_3_65) rfl ((if0 _ _).trans (teq (by decide : (0 : Int32) = (0 : Int32))).1) (by decide) (by decide) ?_
    refine XS.iconst X1.here hx rfl (hb hby d_method_3_72) ?_
    refine XS.iand X1.here hx rfl (hb hby d_method_3_73) rfl ?_
    show Steps p.tables e below (T1.setTop (mkF m 74 #[.val (.ref k), .val (.int (2 : Int32)), .val (.ref pA), .val (.ref pB), .val (.long sa), .second, .val (.long sb), .second, .val (.int (0 : Int32)), .val (.int (3 : Int32))] [(.int (2 : Int32))])) _
    exact retI X1 hx Bd.returns (hb hby d_method_3_74) hr
  · show QSN Z k pA mA sa pB mB sb h0 n0 _ T1.heap _
    exact ⟨_, rfl, N1, K3.1, O2, ⟨q1_6, gk, t4, t8, t9, t13, t14, t18, t19, t23⟩, Or.inr (Or.inr (Or.inl ⟨rfl, ⟨q1_8, q1_9, q1_7⟩⟩))⟩
set_option maxRecDepth 65536 in
set_option maxHeartbeats 40000000 in
theorem rs_N_BA_3 (l : Launch) (Z : State) (a0 : Array Value) (hw : ∀ d ∈ tables_1, d.before a0 Z = true) (ws : List Jvm.Cond) (cs : Int32) (aE : Addr) (hS : SB Z cs aE) (k pA mA : Addr) (sa : Int64) (pB mB : Addr) (sb : Int64) (h0 : Heap) (n0 : Nat) (O0 : Old Z n0 h0) (hq : ¬ sa = sb) (hFB : FB Z n0 h0 k pA mA sa pB mB sb) (hKS : KS2 Z n0 h0 k pB sb pA) :
    Met l my_4 method_3_code 10 (some .int) ws ({ frames := 5, cells := 2, slots := 4, locals := 67 } : Room) #[(.ref k), (.int (3 : Int32)), (.ref pA), (.ref pB), (.long sa), (.long sb), (.int (0 : Int32)), (.int (3 : Int32))] Z h0 (QSN Z k pA mA sa pB mB sb h0 n0) := by
  refine MetFree.of_bodySF (plainFor_of_name pn_3) hisR ?_
  intro p e s m args below meth c s₁ Bd hml0 hP hK
  obtain ⟨rfl, hZ, hh⟩ := hP
  have hx := Bd.exec
  have hby := Bd.bytes
  have hml : c.maxLocals = 10 := hml0
  have hown : s.vm.findClass nKnownO_13 = some m.cls := findClass_of_methodNamed Bd.named
  have hnm := (name_of_methodNamed Bd.named Bd.method).1
  have X0 : Stand p l e ({ frames := 5, cells := 2, slots := 4, locals := 67 } : Room) s m #[(.ref k), (.int (3 : Int32)), (.ref pA), (.ref pB), (.long sa), (.long sb), (.int (0 : Int32)), (.int (3 : Int32))] below meth c s₁ [] 0 0 := Stand.of_body Bd
  have e0 : s₁.heap = h0 := by rw [← hh, Bd.state]; rfl
  have N0 := Fr.nil n0
  obtain ⟨f₀, hf₀⟩ : ∃ f, f = entryFrame m #[(.ref k), (.int (3 : Int32)), (.ref pA), (.ref pB), (.long sa), (.long sb), (.int (0 : Int32)), (.int (3 : Int32))] 10 := ⟨_, rfl⟩
  rw [← hf₀]
  have pre0 : Go p e below s₁ f₀ s₁ (mkF m 0 #[.val (.ref k), .val (.int (3 : Int32)), .val (.ref pA), .val (.ref pB), .val (.long sa), .second, .val (.long sb), .second, .val (.int (0 : Int32)), .val (.int (3 : Int32))] []) := fun t kk => castTop (hf₀.trans (ef_rs_N_BA_3 m (k) ((3 : Int32)) (pA) (pB) (sa) (sb) ((0 : Int32)) ((3 : Int32)))) kk
  obtain ⟨Ek, gk, EpA, FpA, EmA, FmA, EpB, FpB, EmB, FmB⟩ := hFB
  obtain ⟨L, E, ce, mc, KN1, KN2, KN3, EL, FL1, FL2, FL3, VE, OE, gL, gE⟩ := hKS
  obtain ⟨cq1, kq1, q1a, q1b, q1c⟩ := isOf hZ e0 (Ek)
  obtain ⟨_, _, ⟨T1, L1, k1, n1⟩, -, X1, ⟨Lc1, hQ1, l1, y1, z1⟩, st1⟩ := X0.virtualBack hx (y := my_5) (z := my_5) hown (mvT hZ (wq hw 134 rfl)) (mvT hZ (wq hw 135 rfl)) (notFace_of_selects (args := #[]) (mvT hZ (wq hw 137 rfl))) (mvT hZ (wq hw 137 rfl)) (mvT hZ (wq hw 136 rfl)) (by decide) (backOf (W := 0) (rc24_unname l Z a0 hw [] cs aE hS k sb L pB E mc ce pA mA sa h0 n0 O0 gk gL gE Ek KN3 KN1 KN2 EL FL2 FL3 FL1 VE OE EpA FpA EmA FmA) hZ (wq hw 138 rfl) (wq hw 33 rfl) (by decide) (by decide)) q1a q1c (g := (mkF m 78 #[.val (.ref k), .val (.int (3 : Int32)), .val (.ref pA), .val (.ref pB), .val (.long sa), .second, .val (.long sb), .second, .val (.int (0 : Int32)), .val (.int (3 : Int32))] [(.long sb), (.ref k)])) rfl (by rw [hml]; rfl) (Steps.refl _) (argsL := [(.long sb)]) (rest := []) (lenOf pd_3 rfl) rfl (by show 2 * 0 + _ ≤ _; exact Nat.le_of_eq rfl) (hb hby d_method_3_78) (fun _ _ => ⟨rfl, e0, (by decide : 0 + 0 ≤ _), (by decide : 0 + 0 ≤ _)⟩)
  dsimp only [Pt.U, Pt.locs, Pt.cells, Pt.slots] at X1 l1 y1 z1 st1 hQ1
  have X1 := own_to X1 l1 y1 z1
  obtain ⟨rfl, N1q, K1, q1_0, q1_1, q1_2, q1_3, q1_4, q1_5, q1_6, q1_7, q1_8, q1_9⟩ := hQ1
  have N1 := Fr.app N0 N1q
  have O2 : Old Z n0 T1.heap := Old.keep O0 K1 (allS gk (allS gL (allS gE all0)))
  have K3 : Keep h0 T1.heap [k, L, E] := (Keep.refl h0 [k, L, E]).trans K1 (allS (Or.inl (List.mem_of_getElem? (i := 0) rfl)) (allS (Or.inl (List.mem_of_getElem? (i := 1) rfl)) (allS (Or.inl (List.mem_of_getElem? (i := 2) rfl)) all0)))
  have t4 : Exa Z T1.heap pA nPredec_4 := (EpA.keep K1)
  have ne5 : pA ≠ E := Exa.neArv EpA VE (wq hw 62 rfl)
  have ne6 : pA ≠ L := Exa.ne EpA EL (by decide)
  have ne7 : pA ≠ k := Exa.ne EpA Ek (by decide)
  have t8 : Fld Z T1.heap pA nPredec_4 "id" nMessag_5 (.ref mA) := (FpA.keep K1 (ninS ne7 (ninS ne6 (ninS ne5 nin0))))
  have t9 : Exa Z T1.heap mA nMessag_6 := (EmA.keep K1)
  have ne10 : mA ≠ E := Exa.neArv EmA VE (wq hw 65 rfl)
  have ne11 : mA ≠ L := Exa.ne EmA EL (by decide)
  have ne12 : mA ≠ k := Exa.ne EmA Ek (by decide)
  have t13 : Fld Z T1.heap mA nMessag_6 "seq" "J" (.long sa) := (FmA.keep K1 (ninS ne12 (ninS ne11 (ninS ne10 nin0))))
  have t14 : Exa Z T1.heap pB nPredec_4 := (EpB.keep K1)
  have ne15 : pB ≠ E := Exa.neArv EpB VE (wq hw 62 rfl)
  have ne16 : pB ≠ L := Exa.ne EpB EL (by decide)
  have ne17 : pB ≠ k := Exa.ne EpB Ek (by decide)
  have t18 : Fld Z T1.heap pB nPredec_4 "id" nMessag_5 (.ref mB) := (FpB.keep K1 (ninS ne17 (ninS ne16 (ninS ne15 nin0))))
  have t19 : Exa Z T1.heap mB nMessag_6 := (EmB.keep K1)
  have ne20 : mB ≠ E := Exa.neArv EmB VE (wq hw 65 rfl)
  have ne21 : mB ≠ L := Exa.ne EmB EL (by decide)
  have ne22 : mB ≠ k := Exa.ne EmB Ek (by decide)
  have t23 : Fld Z T1.heap mB nMessag_6 "seq" "J" (.long sb) := (FmB.keep K1 (ninS ne22 (ninS ne21 (ninS ne20 nin0))))
  obtain ⟨fs, hr, hrun, hended, hW, hsame⟩ := X1.leave (v := (some (.int (1 : Int32)))) (fun h => by rw [Bd.returns] at h; cases h)
  refine ⟨_, _, pre0 _ ?_, hrun, hended, _, _, rfl, ?_, ⟨_, rfl⟩, hW, hsame.mono (by decide) (by decide)⟩
  · refine XS.iloadN X0.here hx rfl (hb hby d_method_3_0) rfl ?_
    refine XS.ifYes X0.here hx rfl (pc0 := 1) (pc' := 24) rfl (hb hby d_method_3_1) rfl ((if0 _ _).trans (feq (by decide : ¬ ((3 : Int32) = (0 : Int32)))).2) (by decide) (by decide) ?_
    refine XS.iloadN X0.here hx rfl (hb hby d_method_3_24) rfl ?_
    refine XS.iconst X0.here hx rfl (hb hby d_method_3_25) ?_
    refine XS.icmpYes X0.here hx rfl (pc0 := 26) (pc' := 49) rfl (hb hby d_method_3_26) rfl (feq (by decide : ¬ ((3 : Int32) = (1 : Int32)))).2 (by decide) (by decide) ?_
    refine XS.iloadN X0.here hx rfl (hb hby d_method_3_49) rfl ?_
    refine XS.iconst X0.here hx rfl (hb hby d_method_3_50) ?_
    refine XS.icmpYes X0.here hx rfl (pc0 := 51) (pc' := 75) rfl (hb hby d_method_3_51) rfl (feq (by decide : ¬ ((3 : Int32) = (2 : Int32)))).2 (by decide) (by decide) ?_
    refine XS.aloadN X0.here hx rfl (hb hby d_method_3_75) rfl rfl ?_
    refine XS.lload X0.here hx rfl (hb hby d_method_3_76) rfl ?_
    refine st1.trans ?_
    refine XS.pop X1.here hx rfl (hb hby d_method_3_81) rfl rfl ?_
    refine XS.iload X1.here hx rfl (hb hby d_method_3_82) rfl ?_
    refine XS.iload X1.here hx rfl (hb hby d_method_3_84) rfl ?_
    refine XS.ifYes X1.here hx rfl (pc0 := 86) (pc' := 93) rfl (hb hby d_method_3_86) rfl ((if0 _ _).trans (teq (by decide : (0 : Int32) = (0 : Int32))).1) (by decide) (by decide) ?_
    refine XS.iconst X1.here hx rfl (hb hby d_method_3_93) ?_
    refine XS.iand X1.here hx rfl (hb hby d_method_3_94) rfl ?_
    show Steps p.tables e below (T1.setTop (mkF m 95 #[.val (.ref k), .val (.int (3 : Int32)), .val (.ref pA), .val (.ref pB), .val (.long sa), .second, .val (.long sb), .second, .val (.int (0 : Int32)), .val (.int (3 : Int32))] [(.int (1 : Int32))])) _
    exact retI X1 hx Bd.returns (hb hby d_method_3_95) hr
  · show QSN Z k pA mA sa pB mB sb h0 n0 _ T1.heap _
    exact ⟨_, rfl, N1, K3.1, O2, ⟨q1_0, gk, t4, t8, t9, t13, t14, t18, t19, t23⟩, Or.inr (Or.inl ⟨rfl, ⟨q1_2, q1_3, q1_1⟩⟩)⟩
set_option maxRecDepth 65536 in
set_option maxHeartbeats 40000000 in
theorem rs_E_0_0 (l : Launch) (Z : State) (a0 : Array Value) (hw : ∀ d ∈ tables_1, d.before a0 Z = true) (ws : List Jvm.Cond) (cs : Int32) (aE : Addr) (hS : SB Z cs aE) (k pA mA : Addr) (sa : Int64) (pB mB : Addr) (sb : Int64) (h0 : Heap) (n0 : Nat) (O0 : Old Z n0 h0) (hq : sa = sb) (hFB : FB Z n0 h0 k pA mA sa pB mB sb) (hKS : KS0 Z h0 k) :
    Met l my_4 method_3_code 10 (some .int) ws ({ frames := 5, cells := 2, slots := 4, locals := 67 } : Room) #[(.ref k), (.int (0 : Int32)), (.ref pA), (.ref pB), (.long sa), (.long sb), (.int (1 : Int32)), (.int (0 : Int32))] Z h0 (QSE Z k pA mA sa pB mB sb h0 n0) := by
  refine MetFree.of_bodySF (plainFor_of_name pn_3) hisR ?_
  intro p e s m args below meth c s₁ Bd hml0 hP hK
  obtain ⟨rfl, hZ, hh⟩ := hP
  have hx := Bd.exec
  have hby := Bd.bytes
  have hml : c.maxLocals = 10 := hml0
  have hown : s.vm.findClass nKnownO_13 = some m.cls := findClass_of_methodNamed Bd.named
  have hnm := (name_of_methodNamed Bd.named Bd.method).1
  have X0 : Stand p l e ({ frames := 5, cells := 2, slots := 4, locals := 67 } : Room) s m #[(.ref k), (.int (0 : Int32)), (.ref pA), (.ref pB), (.long sa), (.long sb), (.int (1 : Int32)), (.int (0 : Int32))] below meth c s₁ [] 0 0 := Stand.of_body Bd
  have e0 : s₁.heap = h0 := by rw [← hh, Bd.state]; rfl
  have N0 := Fr.nil n0
  obtain ⟨f₀, hf₀⟩ : ∃ f, f = entryFrame m #[(.ref k), (.int (0 : Int32)), (.ref pA), (.ref pB), (.long sa), (.long sb), (.int (1 : Int32)), (.int (0 : Int32))] 10 := ⟨_, rfl⟩
  rw [← hf₀]
  have pre0 : Go p e below s₁ f₀ s₁ (mkF m 0 #[.val (.ref k), .val (.int (0 : Int32)), .val (.ref pA), .val (.ref pB), .val (.long sa), .second, .val (.long sb), .second, .val (.int (1 : Int32)), .val (.int (0 : Int32))] []) := fun t kk => castTop (hf₀.trans (ef_rs_E_0_0 m (k) ((0 : Int32)) (pA) (pB) (sa) (sb) ((1 : Int32)) ((0 : Int32)))) kk
  obtain ⟨Ek, gk, EpA, FpA, EmA, FmA, EpB, FpB, EmB, FmB⟩ := hFB
  obtain ⟨q0, KN1, KN2, KN3⟩ := hKS
  obtain ⟨cq1, kq1, q1a, q1b, q1c⟩ := isOf hZ e0 (Ek)
  obtain ⟨_, _, ⟨T1, L1, k1, n1⟩, -, X1, ⟨Lc1, hQ1, l1, y1, z1⟩, st1⟩ := X0.virtualBack hx (y := my_3) (z := my_3) hown (mvT hZ (wq hw 139 rfl)) (mvT hZ (wq hw 140 rfl)) (notFace_of_selects (args := #[]) (mvT hZ (wq hw 142 rfl))) (mvT hZ (wq hw 142 rfl)) (mvT hZ (wq hw 141 rfl)) (by decide) (backOf (W := 0) (rc1_name l Z a0 hw [] cs aE hS k pA q0 mA sa h0 n0 O0 gk Ek KN3 KN1 KN2 EpA FpA EmA FmA) hZ (wq hw 143 rfl) (wq hw 33 rfl) (by decide) (by decide)) q1a q1c (g := (mkF m 6 #[.val (.ref k), .val (.int (0 : Int32)), .val (.ref pA), .val (.ref pB), .val (.long sa), .second, .val (.long sb), .second, .val (.int (1 : Int32)), .val (.int (0 : Int32))] [(.ref pA), (.ref k)])) rfl (by rw [hml]; rfl) (Steps.refl _) (argsL := [(.ref pA)]) (rest := []) (lenOf pd_2 rfl) rfl (by show 2 * 0 + _ ≤ _; exact Nat.le_of_eq rfl) (hb hby d_method_3_6) (fun _ _ => ⟨rfl, e0, (by decide : 0 + 0 ≤ _), (by decide : 0 + 0 ≤ _)⟩)
  dsimp only [Pt.U, Pt.locs, Pt.cells, Pt.slots] at X1 l1 y1 z1 st1 hQ1
  have X1 := own_to X1 l1 y1 z1
  obtain ⟨rfl, N1q, K1, q1_0, q1_1, q1_2, q1_3⟩ := hQ1
  have N1 := Fr.app N0 N1q
  have O2 : Old Z n0 T1.heap := Old.keep O0 K1 (allS gk all0)
  have K3 : Keep h0 T1.heap [k] := (Keep.refl h0 [k]).trans K1 (allS (Or.inl (List.mem_of_getElem? (i := 0) rfl)) all0)
  have t4 : Exa Z T1.heap pA nPredec_4 := (EpA.keep K1)
  have ne5 : pA ≠ k := Exa.ne EpA Ek (by decide)
  have t6 : Fld Z T1.heap pA nPredec_4 "id" nMessag_5 (.ref mA) := (FpA.keep K1 (ninS ne5 nin0))
  have t7 : Exa Z T1.heap mA nMessag_6 := (EmA.keep K1)
  have ne8 : mA ≠ k := Exa.ne EmA Ek (by decide)
  have t9 : Fld Z T1.heap mA nMessag_6 "seq" "J" (.long sa) := (FmA.keep K1 (ninS ne8 nin0))
  have t10 : Exa Z T1.heap pB nPredec_4 := (EpB.keep K1)
  have ne11 : pB ≠ k := Exa.ne EpB Ek (by decide)
  have t12 : Fld Z T1.heap pB nPredec_4 "id" nMessag_5 (.ref mB) := (FpB.keep K1 (ninS ne11 nin0))
  have t13 : Exa Z T1.heap mB nMessag_6 := (EmB.keep K1)
  have ne14 : mB ≠ k := Exa.ne EmB Ek (by decide)
  have t15 : Fld Z T1.heap mB nMessag_6 "seq" "J" (.long sb) := (FmB.keep K1 (ninS ne14 nin0))
  obtain ⟨fs, hr, hrun, hended, hW, hsame⟩ := X1.leave (v := (some (.int (3 : Int32)))) (fun h => by rw [Bd.returns] at h; cases h)
  refine ⟨_, _, pre0 _ ?_, hrun, hended, _, _, rfl, ?_, ⟨_, rfl⟩, hW, hsame.mono (by decide) (by decide)⟩
  · refine XS.iloadN X0.here hx rfl (hb hby d_method_3_0) rfl ?_
    refine XS.ifNo X0.here hx rfl (hb hby d_method_3_1) rfl ((if0 _ _).trans (teq (by decide : (0 : Int32) = (0 : Int32))).2) ?_
    refine XS.aloadN X0.here hx rfl (hb hby d_method_3_4) rfl rfl ?_
    refine XS.aloadN X0.here hx rfl (hb hby d_method_3_5) rfl rfl ?_
    refine st1.trans ?_
    refine XS.pop X1.here hx rfl (hb hby d_method_3_9) rfl rfl ?_
    refine XS.iload X1.here hx rfl (hb hby d_method_3_10) rfl ?_
    refine XS.iload X1.here hx rfl (hb hby d_method_3_12) rfl ?_
    refine XS.ifNo X1.here hx rfl (hb hby d_method_3_14) rfl ((if0 _ _).trans (feq (by decide : ¬ ((1 : Int32) = (0 : Int32)))).1) ?_
    refine XS.iconst X1.here hx rfl (hb hby d_method_3_17) ?_
    refine XS.goto X1.here hx rfl (pc0 := 18) (pc' := 22) rfl (hb hby d_method_3_18) (by decide) (by decide) ?_
    refine XS.ior X1.here hx rfl (hb hby d_method_3_22) rfl ?_
    show Steps p.tables e below (T1.setTop (mkF m 23 #[.val (.ref k), .val (.int (0 : Int32)), .val (.ref pA), .val (.ref pB), .val (.long sa), .second, .val (.long sb), .second, .val (.int (1 : Int32)), .val (.int (0 : Int32))] [(.int (3 : Int32))])) _
    exact retI X1 hx Bd.returns (hb hby d_method_3_23) hr
  · show QSE Z k pA mA sa pB mB sb h0 n0 _ T1.heap _
    exact ⟨_, rfl, N1, K3.1, O2, ⟨q1_0, gk, t4, t6, t7, t9, t10, t12, t13, t15⟩, Or.inr (Or.inl ⟨rfl, ⟨q1_2, q1_3, q1_1⟩⟩)⟩
set_option maxRecDepth 65536 in
set_option maxHeartbeats 40000000 in
theorem rs_E_0_1 (l : Launch) (Z : State) (a0 : Array Value) (hw : ∀ d ∈ tables_1, d.before a0 Z = true) (ws : List Jvm.Cond) (cs : Int32) (aE : Addr) (hS : SB Z cs aE) (k pA mA : Addr) (sa : Int64) (pB mB : Addr) (sb : Int64) (h0 : Heap) (n0 : Nat) (O0 : Old Z n0 h0) (hq : sa = sb) (hFB : FB Z n0 h0 k pA mA sa pB mB sb) (hKS : KS0 Z h0 k) :
    Met l my_4 method_3_code 10 (some .int) ws ({ frames := 5, cells := 2, slots := 4, locals := 67 } : Room) #[(.ref k), (.int (1 : Int32)), (.ref pA), (.ref pB), (.long sa), (.long sb), (.int (1 : Int32)), (.int (0 : Int32))] Z h0 (QSE Z k pA mA sa pB mB sb h0 n0) := by
  refine MetFree.of_bodySF (plainFor_of_name pn_3) hisR ?_
  intro p e s m args below meth c s₁ Bd hml0 hP hK
  obtain ⟨rfl, hZ, hh⟩ := hP
  have hx := Bd.exec
  have hby := Bd.bytes
  have hml : c.maxLocals = 10 := hml0
  have hown : s.vm.findClass nKnownO_13 = some m.cls := findClass_of_methodNamed Bd.named
  have hnm := (name_of_methodNamed Bd.named Bd.method).1
  have X0 : Stand p l e ({ frames := 5, cells := 2, slots := 4, locals := 67 } : Room) s m #[(.ref k), (.int (1 : Int32)), (.ref pA), (.ref pB), (.long sa), (.long sb), (.int (1 : Int32)), (.int (0 : Int32))] below meth c s₁ [] 0 0 := Stand.of_body Bd
  have e0 : s₁.heap = h0 := by rw [← hh, Bd.state]; rfl
  have N0 := Fr.nil n0
  obtain ⟨f₀, hf₀⟩ : ∃ f, f = entryFrame m #[(.ref k), (.int (1 : Int32)), (.ref pA), (.ref pB), (.long sa), (.long sb), (.int (1 : Int32)), (.int (0 : Int32))] 10 := ⟨_, rfl⟩
  rw [← hf₀]
  have pre0 : Go p e below s₁ f₀ s₁ (mkF m 0 #[.val (.ref k), .val (.int (1 : Int32)), .val (.ref pA), .val (.ref pB), .val (.long sa), .second, .val (.long sb), .second, .val (.int (1 : Int32)), .val (.int (0 : Int32))] []) := fun t kk => castTop (hf₀.trans (ef_rs_E_0_1 m (k) ((1 : Int32)) (pA) (pB) (sa) (sb) ((1 : Int32)) ((0 : Int32)))) kk
  obtain ⟨Ek, gk, EpA, FpA, EmA, FmA, EpB, FpB, EmB, FmB⟩ := hFB
  obtain ⟨q0, KN1, KN2, KN3⟩ := hKS
  obtain ⟨cq1, kq1, q1a, q1b, q1c⟩ := isOf hZ e0 (Ek)
  obtain ⟨_, _, ⟨T1, L1, k1, n1⟩, -, X1, ⟨Lc1, hQ1, l1, y1, z1⟩, st1⟩ := X0.virtualBack hx (y := my_3) (z := my_3) hown (mvT hZ (wq hw 139 rfl)) (mvT hZ (wq hw 140 rfl)) (notFace_of_selects (args := #[]) (mvT hZ (wq hw 142 rfl))) (mvT hZ (wq hw 142 rfl)) (mvT hZ (wq hw 141 rfl)) (by decide) (backOf (W := 0) (rc1_name l Z a0 hw [] cs aE hS k pB q0 mB sb h0 n0 O0 gk Ek KN3 KN1 KN2 EpB FpB EmB FmB) hZ (wq hw 143 rfl) (wq hw 33 rfl) (by decide) (by decide)) q1a q1c (g := (mkF m 31 #[.val (.ref k), .val (.int (1 : Int32)), .val (.ref pA), .val (.ref pB), .val (.long sa), .second, .val (.long sb), .second, .val (.int (1 : Int32)), .val (.int (0 : Int32))] [(.ref pB), (.ref k)])) rfl (by rw [hml]; rfl) (Steps.refl _) (argsL := [(.ref pB)]) (rest := []) (lenOf pd_2 rfl) rfl (by show 2 * 0 + _ ≤ _; exact Nat.le_of_eq rfl) (hb hby d_method_3_31) (fun _ _ => ⟨rfl, e0, (by decide : 0 + 0 ≤ _), (by decide : 0 + 0 ≤ _)⟩)
  dsimp only [Pt.U, Pt.locs, Pt.cells, Pt.slots] at X1 l1 y1 z1 st1 hQ1
  have X1 := own_to X1 l1 y1 z1
  obtain ⟨rfl, N1q, K1, q1_0, q1_1, q1_2, q1_3⟩ := hQ1
  have N1 := Fr.app N0 N1q
  have O2 : Old Z n0 T1.heap := Old.keep O0 K1 (allS gk all0)
  have K3 : Keep h0 T1.heap [k] := (Keep.refl h0 [k]).trans K1 (allS (Or.inl (List.mem_of_getElem? (i := 0) rfl)) all0)
  have t4 : Exa Z T1.heap pA nPredec_4 := (EpA.keep K1)
  have ne5 : pA ≠ k := Exa.ne EpA Ek (by decide)
  have t6 : Fld Z T1.heap pA nPredec_4 "id" nMessag_5 (.ref mA) := (FpA.keep K1 (ninS ne5 nin0))
  have t7 : Exa Z T1.heap mA nMessag_6 := (EmA.keep K1)
  have ne8 : mA ≠ k := Exa.ne EmA Ek (by decide)
  have t9 : Fld Z T1.heap mA nMessag_6 "seq" "J" (.long sa) := (FmA.keep K1 (ninS ne8 nin0))
  have t10 : Exa Z T1.heap pB nPredec_4 := (EpB.keep K1)
  have ne11 : pB ≠ k := Exa.ne EpB Ek (by decide)
  have t12 : Fld Z T1.heap pB nPredec_4 "id" nMessag_5 (.ref mB) := (FpB.keep K1 (ninS ne11 nin0))
  have t13 : Exa Z T1.heap mB nMessag_6 := (EmB.keep K1)
  have ne14 : mB ≠ k := Exa.ne EmB Ek (by decide)
  have t15 : Fld Z T1.heap mB nMessag_6 "seq" "J" (.long sb) := (FmB.keep K1 (ninS ne14 nin0))
  obtain ⟨fs, hr, hrun, hended, hW, hsame⟩ := X1.leave (v := (some (.int (3 : Int32)))) (fun h => by rw [Bd.returns] at h; cases h)
  refine ⟨_, _, pre0 _ ?_, hrun, hended, _, _, rfl, ?_, ⟨_, rfl⟩, hW, hsame.mono (by decide) (by decide)⟩
  · refine XS.iloadN X0.here hx rfl (hb hby d_method_3_0) rfl ?_
    refine XS.ifYes X0.here hx rfl (pc0 := 1) (pc' := 24) rfl (hb hby d_method_3_1) rfl ((if0 _ _).trans (feq (by decide : ¬ ((1 : Int32) = (0 : Int32)))).2) (by decide) (by decide) ?_
    refine XS.iloadN X0.here hx rfl (hb hby d_method_3_24) rfl ?_
    refine XS.iconst X0.here hx rfl (hb hby d_method_3_25) ?_
    refine XS.icmpNo X0.here hx rfl (hb hby d_method_3_26) rfl (teq (by decide : (1 : Int32) = (1 : Int32))).2 ?_
    refine XS.aloadN X0.here hx rfl (hb hby d_method_3_29) rfl rfl ?_
    refine XS.aloadN X0.here hx rfl (hb hby d_method_3_30) rfl rfl ?_
    refine st1.trans ?_
    refine XS.pop X1.here hx rfl (hb hby d_method_3_34) rfl rfl ?_
    refine XS.iload X1.here hx rfl (hb hby d_method_3_35) rfl ?_
    refine XS.iload X1.here hx rfl (hb hby d_method_3_37) rfl ?_
    refine XS.ifNo X1.here hx rfl (hb hby d_method_3_39) rfl ((if0 _ _).trans (feq (by decide : ¬ ((1 : Int32) = (0 : Int32)))).1) ?_
    refine XS.iconst X1.here hx rfl (hb hby d_method_3_42) ?_
    refine XS.goto X1.here hx rfl (pc0 := 43) (pc' := 47) rfl (hb hby d_method_3_43) (by decide) (by decide) ?_
    refine XS.ior X1.here hx rfl (hb hby d_method_3_47) rfl ?_
    show Steps p.tables e below (T1.setTop (mkF m 48 #[.val (.ref k), .val (.int (1 : Int32)), .val (.ref pA), .val (.ref pB), .val (.long sa), .second, .val (.long sb), .second, .val (.int (1 : Int32)), .val (.int (0 : Int32))] [(.int (3 : Int32))])) _
    exact retI X1 hx Bd.returns (hb hby d_method_3_48) hr
  · show QSE Z k pA mA sa pB mB sb h0 n0 _ T1.heap _
    exact ⟨_, rfl, N1, K3.1, O2, ⟨q1_0, gk, t4, t6, t7, t9, t10, t12, t13, t15⟩, Or.inr (Or.inr (⟨rfl, ⟨q1_2, q1_3, q1_1⟩⟩))⟩
set_option maxRecDepth 65536 in
set_option maxHeartbeats 40000000 in
theorem rs_E_0_2 (l : Launch) (Z : State) (a0 : Array Value) (hw : ∀ d ∈ tables_1, d.before a0 Z = true) (ws : List Jvm.Cond) (cs : Int32) (aE : Addr) (hS : SB Z cs aE) (k pA mA : Addr) (sa : Int64) (pB mB : Addr) (sb : Int64) (h0 : Heap) (n0 : Nat) (O0 : Old Z n0 h0) (hq : sa = sb) (hFB : FB Z n0 h0 k pA mA sa pB mB sb) (hKS : KS0 Z h0 k) :
    Met l my_4 method_3_code 10 (some .int) ws ({ frames := 5, cells := 2, slots := 4, locals := 67 } : Room) #[(.ref k), (.int (2 : Int32)), (.ref pA), (.ref pB), (.long sa), (.long sb), (.int (1 : Int32)), (.int (0 : Int32))] Z h0 (QSE Z k pA mA sa pB mB sb h0 n0) := by
  refine MetFree.of_bodySF (plainFor_of_name pn_3) hisR ?_
  intro p e s m args below meth c s₁ Bd hml0 hP hK
  obtain ⟨rfl, hZ, hh⟩ := hP
  have hx := Bd.exec
  have hby := Bd.bytes
  have hml : c.maxLocals = 10 := hml0
  have hown : s.vm.findClass nKnownO_13 = some m.cls := findClass_of_methodNamed Bd.named
  have hnm := (name_of_methodNamed Bd.named Bd.method).1
  have X0 : Stand p l e ({ frames := 5, cells := 2, slots := 4, locals := 67 } : Room) s m #[(.ref k), (.int (2 : Int32)), (.ref pA), (.ref pB), (.long sa), (.long sb), (.int (1 : Int32)), (.int (0 : Int32))] below meth c s₁ [] 0 0 := Stand.of_body Bd
  have e0 : s₁.heap = h0 := by rw [← hh, Bd.state]; rfl
  have N0 := Fr.nil n0
  obtain ⟨f₀, hf₀⟩ : ∃ f, f = entryFrame m #[(.ref k), (.int (2 : Int32)), (.ref pA), (.ref pB), (.long sa), (.long sb), (.int (1 : Int32)), (.int (0 : Int32))] 10 := ⟨_, rfl⟩
  rw [← hf₀]
  have pre0 : Go p e below s₁ f₀ s₁ (mkF m 0 #[.val (.ref k), .val (.int (2 : Int32)), .val (.ref pA), .val (.ref pB), .val (.long sa), .second, .val (.long sb), .second, .val (.int (1 : Int32)), .val (.int (0 : Int32))] []) := fun t kk => castTop (hf₀.trans (ef_rs_E_0_2 m (k) ((2 : Int32)) (pA) (pB) (sa) (sb) ((1 : Int32)) ((0 : Int32)))) kk
  obtain ⟨Ek, gk, EpA, FpA, EmA, FmA, EpB, FpB, EmB, FmB⟩ := hFB
  obtain ⟨q0, KN1, KN2, KN3⟩ := hKS
  obtain ⟨cq1, kq1, q1a, q1b, q1c⟩ := isOf hZ e0 (Ek)
  obtain ⟨_, _, ⟨T1, L1, k1, n1⟩, -, X1, ⟨Lc1, hQ1, l1, y1, z1⟩, st1⟩ := X0.virtualBack hx (y := my_5) (z := my_5) hown (mvT hZ (wq hw 134 rfl)) (mvT hZ (wq hw 135 rfl)) (notFace_of_selects (args := #[]) (mvT hZ (wq hw 137 rfl))) (mvT hZ (wq hw 137 rfl)) (mvT hZ (wq hw 136 rfl)) (by decide) (backOf (W := 0) (rc4_unname l Z a0 hw [] cs aE hS k sa h0 n0 O0 gk KN1) hZ (wq hw 138 rfl) (wq hw 33 rfl) (by decide) (by decide)) q1a q1c (g := (mkF m 57 #[.val (.ref k), .val (.int (2 : Int32)), .val (.ref pA), .val (.ref pB), .val (.long sa), .second, .val (.long sb), .second, .val (.int (1 : Int32)), .val (.int (0 : Int32))] [(.long sa), (.ref k)])) rfl (by rw [hml]; rfl) (Steps.refl _) (argsL := [(.long sa)]) (rest := []) (lenOf pd_3 rfl) rfl (by show 2 * 0 + _ ≤ _; exact Nat.le_of_eq rfl) (hb hby d_method_3_57) (fun _ _ => ⟨rfl, e0, (by decide : 0 + 0 ≤ _), (by decide : 0 + 0 ≤ _)⟩)
  dsimp only [Pt.U, Pt.locs, Pt.cells, Pt.slots] at X1 l1 y1 z1 st1 hQ1
  have X1 := own_to X1 l1 y1 z1
  obtain ⟨rfl, N1q, e1⟩ := hQ1
  have N1 := Fr.app N0 N1q
  obtain ⟨fs, hr, hrun, hended, hW, hsame⟩ := X1.leave (v := (some (.int (0 : Int32)))) (fun h => by rw [Bd.returns] at h; cases h)
  refine ⟨_, _, pre0 _ ?_, hrun, hended, _, _, rfl, ?_, ⟨_, rfl⟩, hW, hsame.mono (by decide) (by decide)⟩
  · refine XS.iloadN X0.here hx rfl (hb hby d_method_3_0) rfl ?_
    refine XS.ifYes X0.here hx rfl (pc0 := 1) (pc' := 24) rfl (hb hby d_method_3_1) rfl ((if0 _ _).trans (feq (by decide : ¬ ((2 : Int32) = (0 : Int32)))).2) (by decide) (by decide) ?_
    refine XS.iloadN X0.here hx rfl (hb hby d_method_3_24) rfl ?_
    refine XS.iconst X0.here hx rfl (hb hby d_method_3_25) ?_
    refine XS.icmpYes X0.here hx rfl (pc0 := 26) (pc' := 49) rfl (hb hby d_method_3_26) rfl (feq (by decide : ¬ ((2 : Int32) = (1 : Int32)))).2 (by decide) (by decide) ?_
    refine XS.iloadN X0.here hx rfl (hb hby d_method_3_49) rfl ?_
    refine XS.iconst X0.here hx rfl (hb hby d_method_3_50) ?_
    refine XS.icmpNo X0.here hx rfl (hb hby d_method_3_51) rfl (teq (by decide : (2 : Int32) = (2 : Int32))).2 ?_
    refine XS.aloadN X0.here hx rfl (hb hby d_method_3_54) rfl rfl ?_
    refine XS.lload X0.here hx rfl (hb hby d_method_3_55) rfl ?_
    refine st1.trans ?_
    refine XS.pop X1.here hx rfl (hb hby d_method_3_60) rfl rfl ?_
    refine XS.iload X1.here hx rfl (hb hby d_method_3_61) rfl ?_
    refine XS.iload X1.here hx rfl (hb hby d_method_3_63) rfl ?_
    refine XS.ifNo X1.here hx rfl (hb hby d_method_3_65) rfl ((if0 _ _).trans (feq (by decide : ¬ ((1 : Int32) = (0 : Int32)))).1) ?_
    refine XS.iconst X1.here hx rfl (hb hby d_method_3_68) ?_
    refine XS.goto X1.here hx rfl (pc0 := 69) (pc' := 73) rfl (hb hby d_method_3_69) (by decide) (by decide) ?_
    refine XS.iand X1.here hx rfl (hb hby d_method_3_73) rfl ?_
    show Steps p.tables e below (T1.setTop (mkF m 74 #[.val (.ref k), .val (.int (2 : Int32)), .val (.ref pA), .val (.ref pB), .val (.long sa), .second, .val (.long sb), .second, .val (.int (1 : Int32)), .val (.int (0 : Int32))] [(.int (0 : Int32))])) _
    exact retI X1 hx Bd.returns (hb hby d_method_3_74) hr
  · show QSE Z k pA mA sa pB mB sb h0 n0 _ T1.heap _
    rw [e1]
    exact ⟨_, rfl, N1, Nat.le_refl _, O0, ⟨Ek, gk, EpA, FpA, EmA, FmA, EpB, FpB, EmB, FmB⟩, Or.inl ⟨rfl, ⟨_, KN1, KN2, KN3⟩⟩⟩
set_option maxRecDepth 65536 in
set_option maxHeartbeats 40000000 in
theorem rs_E_0_3 (l : Launch) (Z : State) (a0 : Array Value) (hw : ∀ d ∈ tables_1, d.before a0 Z = true) (ws : List Jvm.Cond) (cs : Int32) (aE : Addr) (hS : SB Z cs aE) (k pA mA : Addr) (sa : Int64) (pB mB : Addr) (sb : Int64) (h0 : Heap) (n0 : Nat) (O0 : Old Z n0 h0) (hq : sa = sb) (hFB : FB Z n0 h0 k pA mA sa pB mB sb) (hKS : KS0 Z h0 k) :
    Met l my_4 method_3_code 10 (some .int) ws ({ frames := 5, cells := 2, slots := 4, locals := 67 } : Room) #[(.ref k), (.int (3 : Int32)), (.ref pA), (.ref pB), (.long sa), (.long sb), (.int (1 : Int32)), (.int (0 : Int32))] Z h0 (QSE Z k pA mA sa pB mB sb h0 n0) := by
  refine MetFree.of_bodySF (plainFor_of_name pn_3) hisR ?_
  intro p e s m args below meth c s₁ Bd hml0 hP hK
  obtain ⟨rfl, hZ, hh⟩ := hP
  have hx := Bd.exec
  have hby := Bd.bytes
  have hml : c.maxLocals = 10 := hml0
  have hown : s.vm.findClass nKnownO_13 = some m.cls := findClass_of_methodNamed Bd.named
  have hnm := (name_of_methodNamed Bd.named Bd.method).1
  have X0 : Stand p l e ({ frames := 5, cells := 2, slots := 4, locals := 67 } : Room) s m #[(.ref k), (.int (3 : Int32)), (.ref pA), (.ref pB), (.long sa), (.long sb), (.int (1 : Int32)), (.int (0 : Int32))] below meth c s₁ [] 0 0 := Stand.of_body Bd
  have e0 : s₁.heap = h0 := by rw [← hh, Bd.state]; rfl
  have N0 := Fr.nil n0
  obtain ⟨f₀, hf₀⟩ : ∃ f, f = entryFrame m #[(.ref k), (.int (3 : Int32)), (.ref pA), (.ref pB), (.long sa), (.long sb), (.int (1 : Int32)), (.int (0 : Int32))] 10 := ⟨_, rfl⟩
  rw [← hf₀]
  have pre0 : Go p e below s₁ f₀ s₁ (mkF m 0 #[.val (.ref k), .val (.int (3 : Int32)), .val (.ref pA), .val (.ref pB), .val (.long sa), .second, .val (.long sb), .second, .val (.int (1 : Int32)), .val (.int (0 : Int32))] []) := fun t kk => castTop (hf₀.trans (ef_rs_E_0_3 m (k) ((3 : Int32)) (pA) (pB) (sa) (sb) ((1 : Int32)) ((0 : Int32)))) kk
  obtain ⟨Ek, gk, EpA, FpA, EmA, FmA, EpB, FpB, EmB, FmB⟩ := hFB
  obtain ⟨q0, KN1, KN2, KN3⟩ := hKS
  obtain ⟨cq1, kq1, q1a, q1b, q1c⟩ := isOf hZ e0 (Ek)
  obtain ⟨_, _, ⟨T1, L1, k1, n1⟩, -, X1, ⟨Lc1, hQ1, l1, y1, z1⟩, st1⟩ := X0.virtualBack hx (y := my_5) (z := my_5) hown (mvT hZ (wq hw 134 rfl)) (mvT hZ (wq hw 135 rfl)) (notFace_of_selects (args := #[]) (mvT hZ (wq hw 137 rfl))) (mvT hZ (wq hw 137 rfl)) (mvT hZ (wq hw 136 rfl)) (by decide) (backOf (W := 0) (rc4_unname l Z a0 hw [] cs aE hS k sb h0 n0 O0 gk KN1) hZ (wq hw 138 rfl) (wq hw 33 rfl) (by decide) (by decide)) q1a q1c (g := (mkF m 78 #[.val (.ref k), .val (.int (3 : Int32)), .val (.ref pA), .val (.ref pB), .val (.long sa), .second, .val (.long sb), .second, .val (.int (1 : Int32)), .val (.int (0 : Int32))] [(.long sb), (.ref k)])) rfl (by rw [hml]; rfl) (Steps.refl _) (argsL := [(.long sb)]) (rest := []) (lenOf pd_3 rfl) rfl (by show 2 * 0 + _ ≤ _; exact Nat.le_of_eq rfl) (hb hby d_method_3_78) (fun _ _ => ⟨rfl, e0, (by decide : 0 + 0 ≤ _), (by decide : 0 + 0 ≤ _)⟩)
  dsimp only [Pt.U, Pt.locs, Pt.cells, Pt.slots] at X1 l1 y1 z1 st1 hQ1
  have X1 := own_to X1 l1 y1 z1
  obtain ⟨rfl, N1q, e1⟩ := hQ1
  have N1 := Fr.app N0 N1q
  obtain ⟨fs, hr, hrun, hended, hW, hsame⟩ := X1.leave (v := (some (.int (0 : Int32)))) (fun h => by rw [Bd.returns] at h; cases h)
  refine ⟨_, _, pre0 _ ?_, hrun, hended, _, _, rfl, ?_, ⟨_, rfl⟩, hW, hsame.mono (by decide) (by decide)⟩
  · refine XS.iloadN X0.here hx rfl (hb hby d_method_3_0) rfl ?_
    refine XS.ifYes X0.here hx rfl (pc0 := 1) (pc' := 24) rfl (hb hby d_method_3_1) rfl ((if0 _ _).trans (feq (by decide : ¬ ((3 : Int32) = (0 : Int32)))).2) (by decide) (by decide) ?_
    refine XS.iloadN X0.here hx rfl (hb hby d_method_3_24) rfl ?_
    refine XS.iconst X0.here hx rfl (hb hby d_method_3_25) ?_
    refine XS.icmpYes X0.here hx rfl (pc0 := 26) (pc' := 49) rfl (hb hby d_method_3_26) rfl (feq (by decide : ¬ ((3 : Int32) = (1 : Int32)))).2 (by decide) (by decide) ?_
    refine XS.iloadN X0.here hx rfl (hb hby d_method_3_49) rfl ?_
    refine XS.iconst X0.here hx rfl (hb hby d_method_3_50) ?_
    refine XS.icmpYes X0.here hx rfl (pc0 := 51) (pc' := 75) rfl (hb hby d_method_3_51) rfl (feq (by decide : ¬ ((3 : Int32) = (2 : Int32)))).2 (by decide) (by decide) ?_
    refine XS.aloadN X0.here hx rfl (hb hby d_method_3_75) rfl rfl ?_
    refine XS.lload X0.here hx rfl (hb hby d_method_3_76) rfl ?_
    refine st1.trans ?_
    refine XS.pop X1.here hx rfl (hb hby d_method_3_81) rfl rfl ?_
    refine XS.iload X1.here hx rfl (hb hby d_method_3_82) rfl ?_
    refine XS.iload X1.here hx rfl (hb hby d_method_3_84) rfl ?_
    refine XS.ifNo X1.here hx rfl (hb hby d_method_3_86) rfl ((if0 _ _).trans (feq (by decide : ¬ ((1 : Int32) = (0 : Int32)))).1) ?_
    refine XS.iconst X1.here hx rfl (hb hby d_method_3_89) ?_
    refine XS.goto X1.here hx rfl (pc0 := 90) (pc' := 94) rfl (hb hby d_method_3_90) (by decide) (by decide) ?_
    refine XS.iand X1.here hx rfl (hb hby d_method_3_94) rfl ?_
    show Steps p.tables e below (T1.setTop (mkF m 95 #[.val (.ref k), .val (.int (3 : Int32)), .val (.ref pA), .val (.ref pB), .val (.long sa), .second, .val (.long sb), .second, .val (.int (1 : Int32)), .val (.int (0 : Int32))] [(.int (0 : Int32))])) _
    exact retI X1 hx Bd.returns (hb hby d_method_3_95) hr
  · show QSE Z k pA mA sa pB mB sb h0 n0 _ T1.heap _
    rw [e1]
    exact ⟨_, rfl, N1, Nat.le_refl _, O0, ⟨Ek, gk, EpA, FpA, EmA, FmA, EpB, FpB, EmB, FmB⟩, Or.inl ⟨rfl, ⟨_, KN1, KN2, KN3⟩⟩⟩
set_option maxRecDepth 65536 in
set_option maxHeartbeats 40000000 in
theorem rs_E_A_0 (l : Launch) (Z : State) (a0 : Array Value) (hw : ∀ d ∈ tables_1, d.before a0 Z = true) (ws : List Jvm.Cond) (cs : Int32) (aE : Addr) (hS : SB Z cs aE) (k pA mA : Addr) (sa : Int64) (pB mB : Addr) (sb : Int64) (h0 : Heap) (n0 : Nat) (O0 : Old Z n0 h0) (hq : sa = sb) (hFB : FB Z n0 h0 k pA mA sa pB mB sb) (hKS : KS1 Z h0 k pA sa) :
    Met l my_4 method_3_code 10 (some .int) ws ({ frames := 5, cells := 2, slots := 4, locals := 67 } : Room) #[(.ref k), (.int (0 : Int32)), (.ref pA), (.ref pB), (.long sa), (.long sb), (.int (1 : Int32)), (.int (3 : Int32))] Z h0 (QSE Z k pA mA sa pB mB sb h0 n0) := by
  refine MetFree.of_bodySF (plainFor_of_name pn_3) hisR ?_
  intro p e s m args below meth c s₁ Bd hml0 hP hK
  obtain ⟨rfl, hZ, hh⟩ := hP
  have hx := Bd.exec
  have hby := Bd.bytes
  have hml : c.maxLocals = 10 := hml0
  have hown : s.vm.findClass nKnownO_13 = some m.cls := findClass_of_methodNamed Bd.named
  have hnm := (name_of_methodNamed Bd.named Bd.method).1
  have X0 : Stand p l e ({ frames := 5, cells := 2, slots := 4, locals := 67 } : Room) s m #[(.ref k), (.int (0 : Int32)), (.ref pA), (.ref pB), (.long sa), (.long sb), (.int (1 : Int32)), (.int (3 : Int32))] below meth c s₁ [] 0 0 := Stand.of_body Bd
  have e0 : s₁.heap = h0 := by rw [← hh, Bd.state]; rfl
  have N0 := Fr.nil n0
  obtain ⟨f₀, hf₀⟩ : ∃ f, f = entryFrame m #[(.ref k), (.int (0 : Int32)), (.ref pA), (.ref pB), (.long sa), (.long sb), (.int (1 : Int32)), (.int (3 : Int32))] 10 := ⟨_, rfl⟩
  rw [← hf₀]
  have pre0 : Go p e below s₁ f₀ s₁ (mkF m 0 #[.val (.ref k), .val (.int (0 : Int32)), .val (.ref pA), .val (.ref pB), .val (.long sa), .second, .val (.long sb), .second, .val (.int (1 : Int32)), .val (.int (3 : Int32))] []) := fun t kk => castTop (hf₀.trans (ef_rs_E_A_0 m (k) ((0 : Int32)) (pA) (pB) (sa) (sb) ((1 : Int32)) ((3 : Int32)))) kk
  obtain ⟨Ek, gk, EpA, FpA, EmA, FmA, EpB, FpB, EmB, FmB⟩ := hFB
  obtain ⟨KN1, KN2, KN3⟩ := hKS
  obtain ⟨cq1, kq1, q1a, q1b, q1c⟩ := isOf hZ e0 (Ek)
  obtain ⟨_, _, ⟨T1, L1, k1, n1⟩, -, X1, ⟨Lc1, hQ1, l1, y1, z1⟩, st1⟩ := X0.virtualBack hx (y := my_3) (z := my_3) hown (mvT hZ (wq hw 139 rfl)) (mvT hZ (wq hw 140 rfl)) (notFace_of_selects (args := #[]) (mvT hZ (wq hw 142 rfl))) (mvT hZ (wq hw 142 rfl)) (mvT hZ (wq hw 141 rfl)) (by decide) (backOf (W := 0) (rc5_name l Z a0 hw [] cs aE hS k pA sa mA h0 n0 O0 gk Ek KN3 KN1 KN2 EpA FpA EmA FmA) hZ (wq hw 143 rfl) (wq hw 33 rfl) (by decide) (by decide)) q1a q1c (g := (mkF m 6 #[.val (.ref k), .val (.int (0 : Int32)), .val (.ref pA), .val (.ref pB), .val (.long sa), .second, .val (.long sb), .second, .val (.int (1 : Int32)), .val (.int (3 : Int32))] [(.ref pA), (.ref k)])) rfl (by rw [hml]; rfl) (Steps.refl _) (argsL := [(.ref pA)]) (rest := []) (lenOf pd_2 rfl) rfl (by show 2 * 0 + _ ≤ _; exact Nat.le_of_eq rfl) (hb hby d_method_3_6) (fun _ _ => ⟨rfl, e0, (by decide : 0 + 0 ≤ _), (by decide : 0 + 0 ≤ _)⟩)
  dsimp only [Pt.U, Pt.locs, Pt.cells, Pt.slots] at X1 l1 y1 z1 st1 hQ1
  have X1 := own_to X1 l1 y1 z1
  obtain ⟨rfl, N1q, K1, q1_0, q1_1, q1_2, q1_3⟩ := hQ1
  have N1 := Fr.app N0 N1q
  have O2 : Old Z n0 T1.heap := Old.keep O0 K1 (allS gk all0)
  have K3 : Keep h0 T1.heap [k] := (Keep.refl h0 [k]).trans K1 (allS (Or.inl (List.mem_of_getElem? (i := 0) rfl)) all0)
  have t4 : Exa Z T1.heap pA nPredec_4 := (EpA.keep K1)
  have ne5 : pA ≠ k := Exa.ne EpA Ek (by decide)
  have t6 : Fld Z T1.heap pA nPredec_4 "id" nMessag_5 (.ref mA) := (FpA.keep K1 (ninS ne5 nin0))
  have t7 : Exa Z T1.heap mA nMessag_6 := (EmA.keep K1)
  have ne8 : mA ≠ k := Exa.ne EmA Ek (by decide)
  have t9 : Fld Z T1.heap mA nMessag_6 "seq" "J" (.long sa) := (FmA.keep K1 (ninS ne8 nin0))
  have t10 : Exa Z T1.heap pB nPredec_4 := (EpB.keep K1)
  have ne11 : pB ≠ k := Exa.ne EpB Ek (by decide)
  have t12 : Fld Z T1.heap pB nPredec_4 "id" nMessag_5 (.ref mB) := (FpB.keep K1 (ninS ne11 nin0))
  have t13 : Exa Z T1.heap mB nMessag_6 := (EmB.keep K1)
  have ne14 : mB ≠ k := Exa.ne EmB Ek (by decide)
  have t15 : Fld Z T1.heap mB nMessag_6 "seq" "J" (.long sb) := (FmB.keep K1 (ninS ne14 nin0))
  obtain ⟨fs, hr, hrun, hended, hW, hsame⟩ := X1.leave (v := (some (.int (3 : Int32)))) (fun h => by rw [Bd.returns] at h; cases h)
  refine ⟨_, _, pre0 _ ?_, hrun, hended, _, _, rfl, ?_, ⟨_, rfl⟩, hW, hsame.mono (by decide) (by decide)⟩
  · refine XS.iloadN X0.here hx rfl (hb hby d_method_3_0) rfl ?_
    refine XS.ifNo X0.here hx rfl (hb hby d_method_3_1) rfl ((if0 _ _).trans (teq (by decide : (0 : Int32) = (0 : Int32))).2) ?_
    refine XS.aloadN X0.here hx rfl (hb hby d_method_3_4) rfl rfl ?_
    refine XS.aloadN X0.here hx rfl (hb hby d_method_3_5) rfl rfl ?_
    refine st1.trans ?_
    refine XS.pop X1.here hx rfl (hb hby d_method_3_9) rfl rfl ?_
    refine XS.iload X1.here hx rfl (hb hby d_method_3_10) rfl ?_
    refine XS.iload X1.here hx rfl (hb hby d_method_3_12) rfl ?_
    refine XS.ifNo X1.here hx rfl (hb hby d_method_3_14) rfl ((if0 _ _).trans (feq (by decide : ¬ ((1 : Int32) = (0 : Int32)))).1) ?_
    refine XS.iconst X1.here hx rfl (hb hby d_method_3_17) ?_
    refine XS.goto X1.here hx rfl (pc0 := 18) (pc' := 22) rfl (hb hby d_method_3_18) (by decide) (by decide) ?_
    refine XS.ior X1.here hx rfl (hb hby d_method_3_22) rfl ?_
    show Steps p.tables e below (T1.setTop (mkF m 23 #[.val (.ref k), .val (.int (0 : Int32)), .val (.ref pA), .val (.ref pB), .val (.long sa), .second, .val (.long sb), .second, .val (.int (1 : Int32)), .val (.int (3 : Int32))] [(.int (3 : Int32))])) _
    exact retI X1 hx Bd.returns (hb hby d_method_3_23) hr
  · show QSE Z k pA mA sa pB mB sb h0 n0 _ T1.heap _
    exact ⟨_, rfl, N1, K3.1, O2, ⟨q1_0, gk, t4, t6, t7, t9, t10, t12, t13, t15⟩, Or.inr (Or.inl ⟨rfl, ⟨q1_2, q1_3, q1_1⟩⟩)⟩
def Q_rc29_name (Z : State) (aE : Addr) (a1 : Addr) (a2 : Addr) (a3 : Addr) (j4 : Int64) (a5 : Addr) (j7 : Int64) (h0 : Heap) (n0 : Nat) (v : Option Value) (h : Heap) (L : List Loc) : Prop := v = some (.ref a3) ∧ Fr n0 L ∧ Keep h0 h [a1] ∧ Exa Z h a1 nKnownO_3 ∧ Fld Z h a1 nKnownO_3 "alsoNamed" nList_8 .null ∧ Fld Z h a1 nKnownO_3 "named" nPredec_7 (.ref a2) ∧ Fld Z h a1 nKnownO_3 "namedSeq" "J" (.long j7)
set_option maxRecDepth 65536 in
set_option maxHeartbeats 40000000 in
theorem rc29_name (l : Launch) (Z : State) (a0 : Array Value) (hw : ∀ d ∈ tables_1, d.before a0 Z = true) (ws : List Jvm.Cond) (cs : Int32) (aE : Addr) (hS : SB Z cs aE) (a1 : Addr) (a2 : Addr) (a3 : Addr) (j4 : Int64) (a5 : Addr) (j7 : Int64) (h0 : Heap) (n0 : Nat) (O0 : Old Z n0 h0) (g_a1 : n0 ≤ a1) (E_a1 : Exa Z h0 a1 nKnownO_3) (F_a1_alsoNamed : Fld Z h0 a1 nKnownO_3 "alsoNamed" nList_8 .null) (F_a1_named : Fld Z h0 a1 nKnownO_3 "named" nPredec_7 (.ref a3)) (F_a1_namedSeq : Fld Z h0 a1 nKnownO_3 "namedSeq" "J" (.long j4)) (E_a2 : Exa Z h0 a2 nPredec_4) (F_a2_id : Fld Z h0 a2 nPredec_4 "id" nMessag_5 (.ref a5)) (E_a5 : Exa Z h0 a5 nMessag_6) (F_a5_seq : Fld Z h0 a5 nMessag_6 "seq" "J" (.long j7)) (hy0 : j4 = j7) :
    Met l my_3 prog_22_method_11_code 5 (some (.object nPredec_4)) ws ({ frames := 1, cells := 0, slots := 0, locals := 12 } : Room) #[(.ref a1), (.ref a2)] Z h0 (Q_rc29_name Z aE a1 a2 a3 j4 a5 j7 h0 n0) := by
  refine MetFree.of_bodySF (plainFor_of_name pn_2) hisR ?_
  intro p e s m args below meth c s₁ Bd hml0 hP hK
  obtain ⟨rfl, hZ, hh⟩ := hP
  have hx := Bd.exec
  have hby := Bd.bytes
  have hml : c.maxLocals = 5 := hml0
  have hown : s.vm.findClass nKnownO_3 = some m.cls := findClass_of_methodNamed Bd.named
  have hnm := (name_of_methodNamed Bd.named Bd.method).1
  have X0 : Stand p l e ({ frames := 1, cells := 0, slots := 0, locals := 12 } : Room) s m #[(.ref a1), (.ref a2)] below meth c s₁ [] 0 0 := Stand.of_body Bd
  have e0 : s₁.heap = h0 := by rw [← hh, Bd.state]; rfl
  have N0 := Fr.nil n0
  obtain ⟨f₀, hf₀⟩ : ∃ f, f = entryFrame m #[(.ref a1), (.ref a2)] 5 := ⟨_, rfl⟩
  rw [← hf₀]
  have pre0 : Go p e below s₁ f₀ s₁ (mkF m 0 #[.val (.ref a1), .val (.ref a2), .unset, .unset, .unset] []) := fun t kk => castTop (hf₀.trans (ef_rc29_name m (a1) (a2))) kk
  obtain ⟨cq1, kq1, q1a, q1b, q1c⟩ := isOf hZ e0 (E_a2)
  obtain ⟨_, _, ⟨T1, L1, k1, n1⟩, -, X1, ⟨Lc1, hQ1, l1, y1, z1⟩, st1⟩ := X0.virtualBack hx (y := my_1) (z := my_1) hown (mvT hZ (wq hw 144 rfl)) (mvT hZ (wq hw 145 rfl)) (notFace_of_selects (args := #[]) (mvT hZ (wq hw 147 rfl))) (mvT hZ (wq hw 147 rfl)) (mvT hZ (wq hw 146 rfl)) (by decide) (backOf (W := 0) (rc2_id l Z a0 hw [] cs aE hS a2 a5 h0 n0 O0 F_a2_id) hZ (wq hw 148 rfl) (wq hw 63 rfl) (by decide) (by decide)) q1a q1c (g := (mkF m 1 #[.val (.ref a1), .val (.ref a2), .unset, .unset, .unset] [(.ref a2)])) rfl (by rw [hml]; rfl) (Steps.refl _) (argsL := []) (rest := []) (lenOf pd_0 rfl) rfl (by show 2 * 0 + _ ≤ _; exact Nat.le_of_eq rfl) (hb hby d_prog_22_method_11_1) (fun _ _ => ⟨rfl, e0, (by decide : 0 + 0 ≤ _), (by decide : 0 + 0 ≤ _)⟩)
  dsimp only [Pt.U, Pt.locs, Pt.cells, Pt.slots] at X1 l1 y1 z1 st1 hQ1
  have X1 := own_to X1 l1 y1 z1
  obtain ⟨rfl, N1q, e1⟩ := hQ1
  have N1 := Fr.app N0 N1q
  obtain ⟨cq2, kq2, q2a, q2b, q2c⟩ := isOf hZ e1 (E_a5)
  obtain ⟨_, _, ⟨T2, L2, k2, n2⟩, -, X2, ⟨Lc2, hQ2, l2, y2, z2⟩, st2⟩ := X1.virtualBack hx (y := my_2) (z := my_2) hown (mvT hZ (wq hw 149 rfl)) (mvT hZ (wq hw 150 rfl)) (notFace_of_selects (args := #[]) (mvT hZ (wq hw 152 rfl))) (mvT hZ (wq hw 152 rfl)) (mvT hZ (wq hw 151 rfl)) (by decide) (backOf (W := 0) (rc3_seq l Z a0 hw [] cs aE hS a5 j7 h0 n0 O0 F_a5_seq) hZ (wq hw 153 rfl) (wq hw 66 rfl) (by decide) (by decide)) q2a q2c (g := (mkF m 4 #[.val (.ref a1), .val (.ref a2), .unset, .unset, .unset] [(.ref a5)])) rfl (by rw [hml]; rfl) (Steps.refl _) (argsL := []) (rest := []) (lenOf pd_1 rfl) rfl (by show 2 * 0 + _ ≤ _; exact Nat.le_of_eq rfl) (hb hby d_prog_22_method_11_4) (fun _ _ => ⟨rfl, e1, (by decide : 0 + 0 ≤ _), (by decide : 0 + 0 ≤ _)⟩)
  dsimp only [Pt.U, Pt.locs, Pt.cells, Pt.slots] at X2 l2 y2 z2 st2 hQ2
  have X2 := own_to X2 l2 y2 z2
  obtain ⟨rfl, N2q, e2⟩ := hQ2
  have N2 := Fr.app N1 N2q
  obtain ⟨T3, X3, e3, st3⟩ := getF X2 hx hZ hown (host := "") (Or.inl (wq hw 128 rfl)) Via.refl e2 F_a1_named (g := (mkF m 9 #[.val (.ref a1), .val (.ref a2), .val (.long j7), .second, .unset] [(.ref a1)])) rfl rfl (hb hby d_prog_22_method_11_9)
  obtain ⟨T4, X4, e4, st4⟩ := getF X3 hx hZ hown (host := "") (Or.inl (wq hw 154 rfl)) Via.refl e3 F_a1_namedSeq (g := (mkF m 16 #[.val (.ref a1), .val (.ref a2), .val (.long j7), .second, .unset] [(.ref a1)])) rfl rfl (hb hby d_prog_22_method_11_16)
  obtain ⟨T5, X5, e5, st5⟩ := getF X4 hx hZ hown (host := "") (Or.inl (wq hw 128 rfl)) Via.refl e4 F_a1_named (g := (mkF m 25 #[.val (.ref a1), .val (.ref a2), .val (.long j7), .second, .unset] [(.ref a1)])) rfl rfl (hb hby d_prog_22_method_11_25)
  obtain ⟨T6, h6, X6, e6, W6, st6⟩ := putF X5 hx hZ hown (host := "") (Or.inl (wq hw 128 rfl)) Via.refl e5 F_a1_named E_a1 (Or.inl (wq hw 129 rfl)) (wq hw 32 rfl) (ty := (.object nPredec_4)) (by decide) rfl rfl (g := (mkF m 32 #[.val (.ref a1), .val (.ref a2), .val (.long j7), .second, .val (.ref a3)] [(.ref a2), (.ref a1)])) rfl rfl (hb hby d_prog_22_method_11_32)
  have f7 : Fld Z h6 a1 nKnownO_3 "named" nPredec_7 (.ref a2) := F_a1_named.same W6
  have N6 := Fr.snoc X6 N2 g_a1
  have O8 : Old Z n0 h6 := Old.wr O0 W6 g_a1
  have K9 : Keep h0 h6 [a1] := (Keep.refl h0 [a1]).wr W6 (Or.inl (List.mem_of_getElem? (i := 0) rfl))
  have t10 : Exa Z h6 a1 nKnownO_3 := (E_a1.wr W6)
  have t11 : Fld Z h6 a1 nKnownO_3 "namedSeq" "J" (.long j4) := (F_a1_namedSeq.other W6 (Or.inr (slot_ne (Or.inl (wq hw 155 rfl)) (Or.inl (wq hw 129 rfl)) (by decide) (t := .long) (t' := (.object nPredec_4)) (by decide) (by decide))))
  obtain ⟨T12, h12, X12, e12, W12, st12⟩ := putF X6 hx hZ hown (host := "") (Or.inl (wq hw 154 rfl)) Via.refl e6 t11 t10 (Or.inl (wq hw 155 rfl)) (wq hw 32 rfl) (ty := .long) (by decide) rfl rfl (g := (mkF m 37 #[.val (.ref a1), .val (.ref a2), .val (.long j7), .second, .val (.ref a3)] [(.long j7), (.ref a1)])) rfl rfl (hb hby d_prog_22_method_11_37)
  have f13 : Fld Z h12 a1 nKnownO_3 "namedSeq" "J" (.long j7) := t11.same W12
  have N12 := Fr.snoc X12 N6 g_a1
  have O14 : Old Z n0 h12 := Old.wr O8 W12 g_a1
  have K15 : Keep h0 h12 [a1] := K9.wr W12 (Or.inl (List.mem_of_getElem? (i := 0) rfl))
  have t16 : Exa Z h12 a1 nKnownO_3 := (t10.wr W12)
  have t17 : Fld Z h12 a1 nKnownO_3 "alsoNamed" nList_8 .null := ((F_a1_alsoNamed.other W6 (Or.inr (slot_ne (Or.inl (wq hw 157 rfl)) (Or.inl (wq hw 129 rfl)) (by decide) (t := (.object "java/util/List")) (t' := (.object nPredec_4)) (by decide) (by decide)))).other W12 (Or.inr (slot_ne (Or.inl (wq hw 157 rfl)) (Or.inl (wq hw 155 rfl)) (by decide) (t := (.object "java/util/List")) (t' := .long) (by decide) (by decide))))
  have t18 : Fld Z h12 a1 nKnownO_3 "named" nPredec_7 (.ref a2) := (f7.other W12 (Or.inr (slot_ne (Or.inl (wq hw 129 rfl)) (Or.inl (wq hw 155 rfl)) (by decide) (t := (.object nPredec_4)) (t' := .long) (by decide) (by decide))))
  obtain ⟨fs, hr, hrun, hended, hW, hsame⟩ := X12.leave (v := (some (.ref a3))) (fun h => by rw [Bd.returns] at h; cases h)
  refine ⟨_, _, pre0 _ ?_, hrun, hended, _, _, rfl, ?_, ⟨_, rfl⟩, hW, hsame.mono (by decide) (by decide)⟩
  · refine XS.aloadN X0.here hx rfl (hb hby d_prog_22_method_11_0) rfl rfl ?_
    refine st1.trans ?_
    refine st2.trans ?_
    refine XS.lstoreN X2.here hx rfl (hb hby d_prog_22_method_11_7) rfl (l' := #[.val (.ref a1), .val (.ref a2), .val (.long j7), .second, .unset]) rfl ?_
    refine XS.aloadN X2.here hx rfl (hb hby d_prog_22_method_11_8) rfl rfl ?_
    refine st3 _ ?_
    refine XS.ifnullNo X3.here hx rfl (hb hby d_prog_22_method_11_12) rfl ?_
    refine XS.aloadN X3.here hx rfl (hb hby d_prog_22_method_11_15) rfl rfl ?_
    refine st4 _ ?_
    refine XS.lloadN X4.here hx rfl (hb hby d_prog_22_method_11_19) rfl ?_
    refine XS.lcmp X4.here hx rfl (hb hby d_prog_22_method_11_20) rfl ?_
    refine XS.ifNo X4.here hx rfl (hb hby d_prog_22_method_11_21) rfl ((if0 _ _).trans (teq ((lw_eq _ _).mpr hy0)).2) ?_
    refine XS.aloadN X4.here hx rfl (hb hby d_prog_22_method_11_24) rfl rfl ?_
    refine st5 _ ?_
    refine XS.astore X5.here hx rfl (hb hby d_prog_22_method_11_28) rfl rfl (l' := #[.val (.ref a1), .val (.ref a2), .val (.long j7), .second, .val (.ref a3)]) rfl ?_
    refine XS.aloadN X5.here hx rfl (hb hby d_prog_22_method_11_30) rfl rfl ?_
    refine XS.aloadN X5.here hx rfl (hb hby d_prog_22_method_11_31) rfl rfl ?_
    refine st6 _ ?_
    refine XS.aloadN X6.here hx rfl (hb hby d_prog_22_method_11_35) rfl rfl ?_
    refine XS.lloadN X6.here hx rfl (hb hby d_prog_22_method_11_36) rfl ?_
    refine st12 _ ?_
    refine XS.aload X12.here hx rfl (hb hby d_prog_22_method_11_40) rfl rfl ?_
    exact retOut X12 hx Bd.returns rfl (Or.inr (Or.inr (Or.inr (Or.inr ⟨rfl, rfl, rfl⟩)))) (hb hby d_prog_22_method_11_42) hr
  · show Q_rc29_name Z aE a1 a2 a3 j4 a5 j7 h0 n0 _ T12.heap _
    rw [e12]
    exact ⟨rfl, N12, K15, t16, t17, t18, f13⟩
set_option maxRecDepth 65536 in
set_option maxHeartbeats 40000000 in
theorem rs_E_A_1 (l : Launch) (Z : State) (a0 : Array Value) (hw : ∀ d ∈ tables_1, d.before a0 Z = true) (ws : List Jvm.Cond) (cs : Int32) (aE : Addr) (hS : SB Z cs aE) (k pA mA : Addr) (sa : Int64) (pB mB : Addr) (sb : Int64) (h0 : Heap) (n0 : Nat) (O0 : Old Z n0 h0) (hq : sa = sb) (hFB : FB Z n0 h0 k pA mA sa pB mB sb) (hKS : KS1 Z h0 k pA sa) :
    Met l my_4 method_3_code 10 (some .int) ws ({ frames := 5, cells := 2, slots := 4, locals := 67 } : Room) #[(.ref k), (.int (1 : Int32)), (.ref pA), (.ref pB), (.long sa), (.long sb), (.int (1 : Int32)), (.int (3 : Int32))] Z h0 (QSE Z k pA mA sa pB mB sb h0 n0) := by
  refine MetFree.of_bodySF (plainFor_of_name pn_3) hisR ?_
  intro p e s m args below meth c s₁ Bd hml0 hP hK
  obtain ⟨rfl, hZ, hh⟩ := hP
  have hx := Bd.exec
  have hby := Bd.bytes
  have hml : c.maxLocals = 10 := hml0
  have hown : s.vm.findClass nKnownO_13 = some m.cls := findClass_of_methodNamed Bd.named
  have hnm := (name_of_methodNamed Bd.named Bd.method).1
  have X0 : Stand p l e ({ frames := 5, cells := 2, slots := 4, locals := 67 } : Room) s m #[(.ref k), (.int (1 : Int32)), (.ref pA), (.ref pB), (.long sa), (.long sb), (.int (1 : Int32)), (.int (3 : Int32))] below meth c s₁ [] 0 0 := Stand.of_body Bd
  have e0 : s₁.heap = h0 := by rw [← hh, Bd.state]; rfl
  have N0 := Fr.nil n0
  obtain ⟨f₀, hf₀⟩ : ∃ f, f = entryFrame m #[(.ref k), (.int (1 : Int32)), (.ref pA), (.ref pB), (.long sa), (.long sb), (.int (1 : Int32)), (.int (3 : Int32))] 10 := ⟨_, rfl⟩
  rw [← hf₀]
  have pre0 : Go p e below s₁ f₀ s₁ (mkF m 0 #[.val (.ref k), .val (.int (1 : Int32)), .val (.ref pA), .val (.ref pB), .val (.long sa), .second, .val (.long sb), .second, .val (.int (1 : Int32)), .val (.int (3 : Int32))] []) := fun t kk => castTop (hf₀.trans (ef_rs_E_A_1 m (k) ((1 : Int32)) (pA) (pB) (sa) (sb) ((1 : Int32)) ((3 : Int32)))) kk
  obtain ⟨Ek, gk, EpA, FpA, EmA, FmA, EpB, FpB, EmB, FmB⟩ := hFB
  obtain ⟨KN1, KN2, KN3⟩ := hKS
  obtain ⟨cq1, kq1, q1a, q1b, q1c⟩ := isOf hZ e0 (Ek)
  obtain ⟨_, _, ⟨T1, L1, k1, n1⟩, -, X1, ⟨Lc1, hQ1, l1, y1, z1⟩, st1⟩ := X0.virtualBack hx (y := my_3) (z := my_3) hown (mvT hZ (wq hw 139 rfl)) (mvT hZ (wq hw 140 rfl)) (notFace_of_selects (args := #[]) (mvT hZ (wq hw 142 rfl))) (mvT hZ (wq hw 142 rfl)) (mvT hZ (wq hw 141 rfl)) (by decide) (backOf (W := 0) (rc29_name l Z a0 hw [] cs aE hS k pB pA sa mB sb h0 n0 O0 gk Ek KN3 KN1 KN2 EpB FpB EmB FmB hq) hZ (wq hw 143 rfl) (wq hw 33 rfl) (by decide) (by decide)) q1a q1c (g := (mkF m 31 #[.val (.ref k), .val (.int (1 : Int32)), .val (.ref pA), .val (.ref pB), .val (.long sa), .second, .val (.long sb), .second, .val (.int (1 : Int32)), .val (.int (3 : Int32))] [(.ref pB), (.ref k)])) rfl (by rw [hml]; rfl) (Steps.refl _) (argsL := [(.ref pB)]) (rest := []) (lenOf pd_2 rfl) rfl (by show 2 * 0 + _ ≤ _; exact Nat.le_of_eq rfl) (hb hby d_method_3_31) (fun _ _ => ⟨rfl, e0, (by decide : 0 + 0 ≤ _), (by decide : 0 + 0 ≤ _)⟩)
  dsimp only [Pt.U, Pt.locs, Pt.cells, Pt.slots] at X1 l1 y1 z1 st1 hQ1
  have X1 := own_to X1 l1 y1 z1
  obtain ⟨rfl, N1q, K1, q1_0, q1_1, q1_2, q1_3⟩ := hQ1
  have N1 := Fr.app N0 N1q
  have O2 : Old Z n0 T1.heap := Old.keep O0 K1 (allS gk all0)
  have K3 : Keep h0 T1.heap [k] := (Keep.refl h0 [k]).trans K1 (allS (Or.inl (List.mem_of_getElem? (i := 0) rfl)) all0)
  have t4 : Exa Z T1.heap pA nPredec_4 := (EpA.keep K1)
  have ne5 : pA ≠ k := Exa.ne EpA Ek (by decide)
  have t6 : Fld Z T1.heap pA nPredec_4 "id" nMessag_5 (.ref mA) := (FpA.keep K1 (ninS ne5 nin0))
  have t7 : Exa Z T1.heap mA nMessag_6 := (EmA.keep K1)
  have ne8 : mA ≠ k := Exa.ne EmA Ek (by decide)
  have t9 : Fld Z T1.heap mA nMessag_6 "seq" "J" (.long sa) := (FmA.keep K1 (ninS ne8 nin0))
  have t10 : Exa Z T1.heap pB nPredec_4 := (EpB.keep K1)
  have ne11 : pB ≠ k := Exa.ne EpB Ek (by decide)
  have t12 : Fld Z T1.heap pB nPredec_4 "id" nMessag_5 (.ref mB) := (FpB.keep K1 (ninS ne11 nin0))
  have t13 : Exa Z T1.heap mB nMessag_6 := (EmB.keep K1)
  have ne14 : mB ≠ k := Exa.ne EmB Ek (by decide)
  have t15 : Fld Z T1.heap mB nMessag_6 "seq" "J" (.long sb) := (FmB.keep K1 (ninS ne14 nin0))
  obtain ⟨fs, hr, hrun, hended, hW, hsame⟩ := X1.leave (v := (some (.int (3 : Int32)))) (fun h => by rw [Bd.returns] at h; cases h)
  refine ⟨_, _, pre0 _ ?_, hrun, hended, _, _, rfl, ?_, ⟨_, rfl⟩, hW, hsame.mono (by decide) (by decide)⟩
  · refine XS.iloadN X0.here hx rfl (hb hby d_method_3_0) rfl ?_
    refine XS.ifYes X0.here hx rfl (pc0 := 1) (pc' := 24) rfl (hb hby d_method_3_1) rfl ((if0 _ _).trans (feq (by decide : ¬ ((1 : Int32) = (0 : Int32)))).2) (by decide) (by decide) ?_
    refine XS.iloadN X0.here hx rfl (hb hby d_method_3_24) rfl ?_
    refine XS.iconst X0.here hx rfl (hb hby d_method_3_25) ?_
    refine XS.icmpNo X0.here hx rfl (hb hby d_method_3_26) rfl (teq (by decide : (1 : Int32) = (1 : Int32))).2 ?_
    refine XS.aloadN X0.here hx rfl (hb hby d_method_3_29) rfl rfl ?_
    refine XS.aloadN X0.here hx rfl (hb hby d_method_3_30) rfl rfl ?_
    refine st1.trans ?_
    refine XS.pop X1.here hx rfl (hb hby d_method_3_34) rfl rfl ?_
    refine XS.iload X1.here hx rfl (hb hby d_method_3_35) rfl ?_
    refine XS.iload X1.here hx rfl (hb hby d_method_3_37) rfl ?_
    refine XS.ifNo X1.here hx rfl (hb hby d_method_3_39) rfl ((if0 _ _).trans (feq (by decide : ¬ ((1 : Int32) = (0 : Int32)))).1) ?_
    refine XS.iconst X1.here hx rfl (hb hby d_method_3_42) ?_
    refine XS.goto X1.here hx rfl (pc0 := 43) (pc' := 47) rfl (hb hby d_method_3_43) (by decide) (by decide) ?_
    refine XS.ior X1.here hx rfl (hb hby d_method_3_47) rfl ?_
    show Steps p.tables e below (T1.setTop (mkF m 48 #[.val (.ref k), .val (.int (1 : Int32)), .val (.ref pA), .val (.ref pB), .val (.long sa), .second, .val (.long sb), .second, .val (.int (1 : Int32)), .val (.int (3 : Int32))] [(.int (3 : Int32))])) _
    exact retI X1 hx Bd.returns (hb hby d_method_3_48) hr
  · show QSE Z k pA mA sa pB mB sb h0 n0 _ T1.heap _
    exact ⟨_, rfl, N1, K3.1, O2, ⟨q1_0, gk, t4, t6, t7, t9, t10, t12, t13, t15⟩, Or.inr (Or.inr (⟨rfl, ⟨q1_2, q1_3, q1_1⟩⟩))⟩
set_option maxRecDepth 65536 in
set_option maxHeartbeats 40000000 in
theorem rs_E_A_2 (l : Launch) (Z : State) (a0 : Array Value) (hw : ∀ d ∈ tables_1, d.before a0 Z = true) (ws : List Jvm.Cond) (cs : Int32) (aE : Addr) (hS : SB Z cs aE) (k pA mA : Addr) (sa : Int64) (pB mB : Addr) (sb : Int64) (h0 : Heap) (n0 : Nat) (O0 : Old Z n0 h0) (hq : sa = sb) (hFB : FB Z n0 h0 k pA mA sa pB mB sb) (hKS : KS1 Z h0 k pA sa) :
    Met l my_4 method_3_code 10 (some .int) ws ({ frames := 5, cells := 2, slots := 4, locals := 67 } : Room) #[(.ref k), (.int (2 : Int32)), (.ref pA), (.ref pB), (.long sa), (.long sb), (.int (1 : Int32)), (.int (3 : Int32))] Z h0 (QSE Z k pA mA sa pB mB sb h0 n0) := by
  refine MetFree.of_bodySF (plainFor_of_name pn_3) hisR ?_
  intro p e s m args below meth c s₁ Bd hml0 hP hK
  obtain ⟨rfl, hZ, hh⟩ := hP
  have hx := Bd.exec
  have hby := Bd.bytes
  have hml : c.maxLocals = 10 := hml0
  have hown : s.vm.findClass nKnownO_13 = some m.cls := findClass_of_methodNamed Bd.named
  have hnm := (name_of_methodNamed Bd.named Bd.method).1
  have X0 : Stand p l e ({ frames := 5, cells := 2, slots := 4, locals := 67 } : Room) s m #[(.ref k), (.int (2 : Int32)), (.ref pA), (.ref pB), (.long sa), (.long sb), (.int (1 : Int32)), (.int (3 : Int32))] below meth c s₁ [] 0 0 := Stand.of_body Bd
  have e0 : s₁.heap = h0 := by rw [← hh, Bd.state]; rfl
  have N0 := Fr.nil n0
  obtain ⟨f₀, hf₀⟩ : ∃ f, f = entryFrame m #[(.ref k), (.int (2 : Int32)), (.ref pA), (.ref pB), (.long sa), (.long sb), (.int (1 : Int32)), (.int (3 : Int32))] 10 := ⟨_, rfl⟩
  rw [← hf₀]
  have pre0 : Go p e below s₁ f₀ s₁ (mkF m 0 #[.val (.ref k), .val (.int (2 : Int32)), .val (.ref pA), .val (.ref pB), .val (.long sa), .second, .val (.long sb), .second, .val (.int (1 : Int32)), .val (.int (3 : Int32))] []) := fun t kk => castTop (hf₀.trans (ef_rs_E_A_2 m (k) ((2 : Int32)) (pA) (pB) (sa) (sb) ((1 : Int32)) ((3 : Int32)))) kk
  obtain ⟨Ek, gk, EpA, FpA, EmA, FmA, EpB, FpB, EmB, FmB⟩ := hFB
  obtain ⟨KN1, KN2, KN3⟩ := hKS
  obtain ⟨cq1, kq1, q1a, q1b, q1c⟩ := isOf hZ e0 (Ek)
  obtain ⟨_, _, ⟨T1, L1, k1, n1⟩, -, X1, ⟨Lc1, hQ1, l1, y1, z1⟩, st1⟩ := X0.virtualBack hx (y := my_5) (z := my_5) hown (mvT hZ (wq hw 134 rfl)) (mvT hZ (wq hw 135 rfl)) (notFace_of_selects (args := #[]) (mvT hZ (wq hw 137 rfl))) (mvT hZ (wq hw 137 rfl)) (mvT hZ (wq hw 136 rfl)) (by decide) (backOf (W := 0) (rc13_unname l Z a0 hw [] cs aE hS k sa pA h0 n0 O0 gk Ek KN3 KN1 KN2) hZ (wq hw 138 rfl) (wq hw 33 rfl) (by decide) (by decide)) q1a q1c (g := (mkF m 57 #[.val (.ref k), .val (.int (2 : Int32)), .val (.ref pA), .val (.ref pB), .val (.long sa), .second, .val (.long sb), .second, .val (.int (1 : Int32)), .val (.int (3 : Int32))] [(.long sa), (.ref k)])) rfl (by rw [hml]; rfl) (Steps.refl _) (argsL := [(.long sa)]) (rest := []) (lenOf pd_3 rfl) rfl (by show 2 * 0 + _ ≤ _; exact Nat.le_of_eq rfl) (hb hby d_method_3_57) (fun _ _ => ⟨rfl, e0, (by decide : 0 + 0 ≤ _), (by decide : 0 + 0 ≤ _)⟩)
  dsimp only [Pt.U, Pt.locs, Pt.cells, Pt.slots] at X1 l1 y1 z1 st1 hQ1
  have X1 := own_to X1 l1 y1 z1
  obtain ⟨rfl, N1q, K1, q1_0, q1_1, q1_2, q1_3⟩ := hQ1
  have N1 := Fr.app N0 N1q
  have O2 : Old Z n0 T1.heap := Old.keep O0 K1 (allS gk all0)
  have K3 : Keep h0 T1.heap [k] := (Keep.refl h0 [k]).trans K1 (allS (Or.inl (List.mem_of_getElem? (i := 0) rfl)) all0)
  have t4 : Exa Z T1.heap pA nPredec_4 := (EpA.keep K1)
  have ne5 : pA ≠ k := Exa.ne EpA Ek (by decide)
  have t6 : Fld Z T1.heap pA nPredec_4 "id" nMessag_5 (.ref mA) := (FpA.keep K1 (ninS ne5 nin0))
  have t7 : Exa Z T1.heap mA nMessag_6 := (EmA.keep K1)
  have ne8 : mA ≠ k := Exa.ne EmA Ek (by decide)
  have t9 : Fld Z T1.heap mA nMessag_6 "seq" "J" (.long sa) := (FmA.keep K1 (ninS ne8 nin0))
  have t10 : Exa Z T1.heap pB nPredec_4 := (EpB.keep K1)
  have ne11 : pB ≠ k := Exa.ne EpB Ek (by decide)
  have t12 : Fld Z T1.heap pB nPredec_4 "id" nMessag_5 (.ref mB) := (FpB.keep K1 (ninS ne11 nin0))
  have t13 : Exa Z T1.heap mB nMessag_6 := (EmB.keep K1)
  have ne14 : mB ≠ k := Exa.ne EmB Ek (by decide)
  have t15 : Fld Z T1.heap mB nMessag_6 "seq" "J" (.long sb) := (FmB.keep K1 (ninS ne14 nin0))
  obtain ⟨fs, hr, hrun, hended, hW, hsame⟩ := X1.leave (v := (some (.int (0 : Int32)))) (fun h => by rw [Bd.returns] at h; cases h)
  refine ⟨_, _, pre0 _ ?_, hrun, hended, _, _, rfl, ?_, ⟨_, rfl⟩, hW, hsame.mono (by decide) (by decide)⟩
  · refine XS.iloadN X0.here hx rfl (hb hby d_method_3_0) rfl ?_
    refine XS.ifYes X0.here hx rfl (pc0 := 1) (pc' := 24) rfl (hb hby d_method_3_1) rfl ((if0 _ _).trans (feq (by decide : ¬ ((2 : Int32) = (0 : Int32)))).2) (by decide) (by decide) ?_
    refine XS.iloadN X0.here hx rfl (hb hby d_method_3_24) rfl ?_
    refine XS.iconst X0.here hx rfl (hb hby d_method_3_25) ?_
    refine XS.icmpYes X0.here hx rfl (pc0 := 26) (pc' := 49) rfl (hb hby d_method_3_26) rfl (feq (by decide : ¬ ((2 : Int32) = (1 : Int32)))).2 (by decide) (by decide) ?_
    refine XS.iloadN X0.here hx rfl (hb hby d_method_3_49) rfl ?_
    refine XS.iconst X0.here hx rfl (hb hby d_method_3_50) ?_
    refine XS.icmpNo X0.here hx rfl (hb hby d_method_3_51) rfl (teq (by decide : (2 : Int32) = (2 : Int32))).2 ?_
    refine XS.aloadN X0.here hx rfl (hb hby d_method_3_54) rfl rfl ?_
    refine XS.lload X0.here hx rfl (hb hby d_method_3_55) rfl ?_
    refine st1.trans ?_
    refine XS.pop X1.here hx rfl (hb hby d_method_3_60) rfl rfl ?_
    refine XS.iload X1.here hx rfl (hb hby d_method_3_61) rfl ?_
    refine XS.iload X1.here hx rfl (hb hby d_method_3_63) rfl ?_
    refine XS.ifNo X1.here hx rfl (hb hby d_method_3_65) rfl ((if0 _ _).trans (feq (by decide : ¬ ((1 : Int32) = (0 : Int32)))).1) ?_
    refine XS.iconst X1.here hx rfl (hb hby d_method_3_68) ?_
    refine XS.goto X1.here hx rfl (pc0 := 69) (pc' := 73) rfl (hb hby d_method_3_69) (by decide) (by decide) ?_
    refine XS.iand X1.here hx rfl (hb hby d_method_3_73) rfl ?_
    show Steps p.tables e below (T1.setTop (mkF m 74 #[.val (.ref k), .val (.int (2 : Int32)), .val (.ref pA), .val (.ref pB), .val (.long sa), .second, .val (.long sb), .second, .val (.int (1 : Int32)), .val (.int (3 : Int32))] [(.int (0 : Int32))])) _
    exact retI X1 hx Bd.returns (hb hby d_method_3_74) hr
  · show QSE Z k pA mA sa pB mB sb h0 n0 _ T1.heap _
    exact ⟨_, rfl, N1, K3.1, O2, ⟨q1_0, gk, t4, t6, t7, t9, t10, t12, t13, t15⟩, Or.inl ⟨rfl, ⟨_, q1_2, q1_3, q1_1⟩⟩⟩
def Q_rc30_unname (Z : State) (aE : Addr) (a1 : Addr) (j2 : Int64) (a3 : Addr) (j4 : Int64) (h0 : Heap) (n0 : Nat) (v : Option Value) (h : Heap) (L : List Loc) : Prop := v = some (.ref a3) ∧ Fr n0 L ∧ Keep h0 h [a1] ∧ Exa Z h a1 nKnownO_3 ∧ Fld Z h a1 nKnownO_3 "alsoNamed" nList_8 .null ∧ Fld Z h a1 nKnownO_3 "named" nPredec_7 .null ∧ Fld Z h a1 nKnownO_3 "namedSeq" "J" (.long j4)
set_option maxRecDepth 65536 in
set_option maxHeartbeats 40000000 in
theorem rc30_unname (l : Launch) (Z : State) (a0 : Array Value) (hw : ∀ d ∈ tables_1, d.before a0 Z = true) (ws : List Jvm.Cond) (cs : Int32) (aE : Addr) (hS : SB Z cs aE) (a1 : Addr) (j2 : Int64) (a3 : Addr) (j4 : Int64) (h0 : Heap) (n0 : Nat) (O0 : Old Z n0 h0) (g_a1 : n0 ≤ a1) (E_a1 : Exa Z h0 a1 nKnownO_3) (F_a1_alsoNamed : Fld Z h0 a1 nKnownO_3 "alsoNamed" nList_8 .null) (F_a1_named : Fld Z h0 a1 nKnownO_3 "named" nPredec_7 (.ref a3)) (F_a1_namedSeq : Fld Z h0 a1 nKnownO_3 "namedSeq" "J" (.long j4)) (hy0 : j4 = j2) :
    Met l my_5 prog_22_method_12_code 5 (some (.object nPredec_4)) ws ({ frames := 0, cells := 0, slots := 0, locals := 0 } : Room) #[(.ref a1), (.long j2)] Z h0 (Q_rc30_unname Z aE a1 j2 a3 j4 h0 n0) := by
  refine MetFree.of_bodySF (plainFor_of_name pn_2) hisR ?_
  intro p e s m args below meth c s₁ Bd hml0 hP hK
  obtain ⟨rfl, hZ, hh⟩ := hP
  have hx := Bd.exec
  have hby := Bd.bytes
  have hml : c.maxLocals = 5 := hml0
  have hown : s.vm.findClass nKnownO_3 = some m.cls := findClass_of_methodNamed Bd.named
  have hnm := (name_of_methodNamed Bd.named Bd.method).1
  have X0 : Stand p l e ({ frames := 0, cells := 0, slots := 0, locals := 0 } : Room) s m #[(.ref a1), (.long j2)] below meth c s₁ [] 0 0 := Stand.of_body Bd
  have e0 : s₁.heap = h0 := by rw [← hh, Bd.state]; rfl
  have N0 := Fr.nil n0
  obtain ⟨f₀, hf₀⟩ : ∃ f, f = entryFrame m #[(.ref a1), (.long j2)] 5 := ⟨_, rfl⟩
  rw [← hf₀]
  have pre0 : Go p e below s₁ f₀ s₁ (mkF m 0 #[.val (.ref a1), .val (.long j2), .second, .unset, .unset] []) := fun t kk => castTop (hf₀.trans (ef_rc30_unname m (a1) (j2))) kk
  obtain ⟨T1, X1, e1, st1⟩ := getF X0 hx hZ hown (host := "") (Or.inl (wq hw 128 rfl)) Via.refl e0 F_a1_named (g := (mkF m 1 #[.val (.ref a1), .val (.long j2), .second, .unset, .unset] [(.ref a1)])) rfl rfl (hb hby d_prog_22_method_12_1)
  obtain ⟨T2, X2, e2, st2⟩ := getF X1 hx hZ hown (host := "") (Or.inl (wq hw 154 rfl)) Via.refl e1 F_a1_namedSeq (g := (mkF m 10 #[.val (.ref a1), .val (.long j2), .second, .unset, .unset] [(.ref a1)])) rfl rfl (hb hby d_prog_22_method_12_10)
  obtain ⟨T3, X3, e3, st3⟩ := getF X2 hx hZ hown (host := "") (Or.inl (wq hw 128 rfl)) Via.refl e2 F_a1_named (g := (mkF m 19 #[.val (.ref a1), .val (.long j2), .second, .unset, .unset] [(.ref a1)])) rfl rfl (hb hby d_prog_22_method_12_19)
  obtain ⟨T4, h4, X4, e4, W4, st4⟩ := putF X3 hx hZ hown (host := "") (Or.inl (wq hw 128 rfl)) Via.refl e3 F_a1_named E_a1 (Or.inl (wq hw 129 rfl)) (wq hw 32 rfl) (ty := (.object nPredec_4)) (by decide) rfl rfl (g := (mkF m 25 #[.val (.ref a1), .val (.long j2), .second, .val (.ref a3), .unset] [.null, (.ref a1)])) rfl rfl (hb hby d_prog_22_method_12_25)
  have f5 : Fld Z h4 a1 nKnownO_3 "named" nPredec_7 .null := F_a1_named.same W4
  have N4 := Fr.snoc X4 N0 g_a1
  have O6 : Old Z n0 h4 := Old.wr O0 W4 g_a1
  have K7 : Keep h0 h4 [a1] := (Keep.refl h0 [a1]).wr W4 (Or.inl (List.mem_of_getElem? (i := 0) rfl))
  have t8 : Fld Z h4 a1 nKnownO_3 "alsoNamed" nList_8 .null := (F_a1_alsoNamed.other W4 (Or.inr (slot_ne (Or.inl (wq hw 157 rfl)) (Or.inl (wq hw 129 rfl)) (by decide) (t := (.object "java/util/List")) (t' := (.object nPredec_4)) (by decide) (by decide))))
  obtain ⟨T9, X9, e9, st9⟩ := getF X4 hx hZ hown (host := "") (Or.inl (wq hw 156 rfl)) Via.refl e4 t8 (g := (mkF m 29 #[.val (.ref a1), .val (.long j2), .second, .val (.ref a3), .unset] [(.ref a1)])) rfl rfl (hb hby d_prog_22_method_12_29)
  have t10 : Exa Z h4 a1 nKnownO_3 := (E_a1.wr W4)
  have t11 : Fld Z h4 a1 nKnownO_3 "namedSeq" "J" (.long j4) := (F_a1_namedSeq.other W4 (Or.inr (slot_ne (Or.inl (wq hw 155 rfl)) (Or.inl (wq hw 129 rfl)) (by decide) (t := .long) (t' := (.object nPredec_4)) (by decide) (by decide))))
  obtain ⟨fs, hr, hrun, hended, hW, hsame⟩ := X9.leave (v := (some (.ref a3))) (fun h => by rw [Bd.returns] at h; cases h)
  refine ⟨_, _, pre0 _ ?_, hrun, hended, _, _, rfl, ?_, ⟨_, rfl⟩, hW, hsame.mono (by decide) (by decide)⟩
  · refine XS.aloadN X0.here hx rfl (hb hby d_prog_22_method_12_0) rfl rfl ?_
    refine st1 _ ?_
    refine XS.ifnonnullYes X1.here hx rfl (pc0 := 4) (pc' := 9) rfl (hb hby d_prog_22_method_12_4) rfl (by decide) (by decide) ?_
    refine XS.aloadN X1.here hx rfl (hb hby d_prog_22_method_12_9) rfl rfl ?_
    refine st2 _ ?_
    refine XS.lloadN X2.here hx rfl (hb hby d_prog_22_method_12_13) rfl ?_
    refine XS.lcmp X2.here hx rfl (hb hby d_prog_22_method_12_14) rfl ?_
    refine XS.ifNo X2.here hx rfl (hb hby d_prog_22_method_12_15) rfl ((if0 _ _).trans (teq ((lw_eq _ _).mpr hy0)).2) ?_
    refine XS.aloadN X2.here hx rfl (hb hby d_prog_22_method_12_18) rfl rfl ?_
    refine st3 _ ?_
    refine XS.astoreN X3.here hx rfl (hb hby d_prog_22_method_12_22) rfl rfl (l' := #[.val (.ref a1), .val (.long j2), .second, .val (.ref a3), .unset]) rfl ?_
    refine XS.aloadN X3.here hx rfl (hb hby d_prog_22_method_12_23) rfl rfl ?_
    refine XS.aconstNull X3.here hx rfl (hb hby d_prog_22_method_12_24) ?_
    refine st4 _ ?_
    refine XS.aloadN X4.here hx rfl (hb hby d_prog_22_method_12_28) rfl rfl ?_
    refine st9 _ ?_
    refine XS.ifnullYes X9.here hx rfl (pc0 := 32) (pc' := 93) rfl (hb hby d_prog_22_method_12_32) rfl (by decide) (by decide) ?_
    refine XS.aloadN X9.here hx rfl (hb hby d_prog_22_method_12_93) rfl rfl ?_
    exact retOut X9 hx Bd.returns rfl (Or.inr (Or.inr (Or.inr (Or.inr ⟨rfl, rfl, rfl⟩)))) (hb hby d_prog_22_method_12_94) hr
  · show Q_rc30_unname Z aE a1 j2 a3 j4 h0 n0 _ T9.heap _
    rw [e9]
    exact ⟨rfl, N4, K7, t10, t8, f5, t11⟩
set_option maxRecDepth 65536 in
set_option maxHeartbeats 40000000 in
theorem rs_E_A_3 (l : Launch) (Z : State) (a0 : Array Value) (hw : ∀ d ∈ tables_1, d.before a0 Z = true) (ws : List Jvm.Cond) (cs : Int32) (aE : Addr) (hS : SB Z cs aE) (k pA mA : Addr) (sa : Int64) (pB mB : Addr) (sb : Int64) (h0 : Heap) (n0 : Nat) (O0 : Old Z n0 h0) (hq : sa = sb) (hFB : FB Z n0 h0 k pA mA sa pB mB sb) (hKS : KS1 Z h0 k pA sa) :
    Met l my_4 method_3_code 10 (some .int) ws ({ frames := 5, cells := 2, slots := 4, locals := 67 } : Room) #[(.ref k), (.int (3 : Int32)), (.ref pA), (.ref pB), (.long sa), (.long sb), (.int (1 : Int32)), (.int (3 : Int32))] Z h0 (QSE Z k pA mA sa pB mB sb h0 n0) := by
  refine MetFree.of_bodySF (plainFor_of_name pn_3) hisR ?_
  intro p e s m args below meth c s₁ Bd hml0 hP hK
  obtain ⟨rfl, hZ, hh⟩ := hP
  have hx := Bd.exec
  have hby := Bd.bytes
  have hml : c.maxLocals = 10 := hml0
  have hown : s.vm.findClass nKnownO_13 = some m.cls := findClass_of_methodNamed Bd.named
  have hnm := (name_of_methodNamed Bd.named Bd.method).1
  have X0 : Stand p l e ({ frames := 5, cells := 2, slots := 4, locals := 67 } : Room) s m #[(.ref k), (.int (3 : Int32)), (.ref pA), (.ref pB), (.long sa), (.long sb), (.int (1 : Int32)), (.int (3 : Int32))] below meth c s₁ [] 0 0 := Stand.of_body Bd
  have e0 : s₁.heap = h0 := by rw [← hh, Bd.state]; rfl
  have N0 := Fr.nil n0
  obtain ⟨f₀, hf₀⟩ : ∃ f, f = entryFrame m #[(.ref k), (.int (3 : Int32)), (.ref pA), (.ref pB), (.long sa), (.long sb), (.int (1 : Int32)), (.int (3 : Int32))] 10 := ⟨_, rfl⟩
  rw [← hf₀]
  have pre0 : Go p e below s₁ f₀ s₁ (mkF m 0 #[.val (.ref k), .val (.int (3 : Int32)), .val (.ref pA), .val (.ref pB), .val (.long sa), .second, .val (.long sb), .second, .val (.int (1 : Int32)), .val (.int (3 : Int32))] []) := fun t kk => castTop (hf₀.trans (ef_rs_E_A_3 m (k) ((3 : Int32)) (pA) (pB) (sa) (sb) ((1 : Int32)) ((3 : Int32)))) kk
  obtain ⟨Ek, gk, EpA, FpA, EmA, FmA, EpB, FpB, EmB, FmB⟩ := hFB
  obtain ⟨KN1, KN2, KN3⟩ := hKS
  obtain ⟨cq1, kq1, q1a, q1b, q1c⟩ := isOf hZ e0 (Ek)
  obtain ⟨_, _, ⟨T1, L1, k1, n1⟩, -, X1, ⟨Lc1, hQ1, l1, y1, z1⟩, st1⟩ := X0.virtualBack hx (y := my_5) (z := my_5) hown (mvT hZ (wq hw 134 rfl)) (mvT hZ (wq hw 135 rfl)) (notFace_of_selects (args := #[]) (mvT hZ (wq hw 137 rfl))) (mvT hZ (wq hw 137 rfl)) (mvT hZ (wq hw 136 rfl)) (by decide) (backOf (W := 0) (rc30_unname l Z a0 hw [] cs aE hS k sb pA sa h0 n0 O0 gk Ek KN3 KN1 KN2 hq) hZ (wq hw 138 rfl) (wq hw 33 rfl) (by decide) (by decide)) q1a q1c (g := (mkF m 78 #[.val (.ref k), .val (.int (3 : Int32)), .val (.ref pA), .val (.ref pB), .val (.long sa), .second, .val (.long sb), .second, .val (.int (1 : Int32)), .val (.int (3 : Int32))] [(.long sb), (.ref k)])) rfl (by rw [hml]; rfl) (Steps.refl _) (argsL := [(.long sb)]) (rest := []) (lenOf pd_3 rfl) rfl (by show 2 * 0 + _ ≤ _; exact Nat.le_of_eq rfl) (hb hby d_method_3_78) (fun _ _ => ⟨rfl, e0, (by decide : 0 + 0 ≤ _), (by decide : 0 + 0 ≤ _)⟩)
  dsimp only [Pt.U, Pt.locs, Pt.cells, Pt.slots] at X1 l1 y1 z1 st1 hQ1
  have X1 := own_to X1 l1 y1 z1
  obtain ⟨rfl, N1q, K1, q1_0, q1_1, q1_2, q1_3⟩ := hQ1
  have N1 := Fr.app N0 N1q
  have O2 : Old Z n0 T1.heap := Old.keep O0 K1 (allS gk all0)
  have K3 : Keep h0 T1.heap [k] := (Keep.refl h0 [k]).trans K1 (allS (Or.inl (List.mem_of_getElem? (i := 0) rfl)) all0)
  have t4 : Exa Z T1.heap pA nPredec_4 := (EpA.keep K1)
  have ne5 : pA ≠ k := Exa.ne EpA Ek (by decide)
  have t6 : Fld Z T1.heap pA nPredec_4 "id" nMessag_5 (.ref mA) := (FpA.keep K1 (ninS ne5 nin0))
  have t7 : Exa Z T1.heap mA nMessag_6 := (EmA.keep K1)
  have ne8 : mA ≠ k := Exa.ne EmA Ek (by decide)
  have t9 : Fld Z T1.heap mA nMessag_6 "seq" "J" (.long sa) := (FmA.keep K1 (ninS ne8 nin0))
  have t10 : Exa Z T1.heap pB nPredec_4 := (EpB.keep K1)
  have ne11 : pB ≠ k := Exa.ne EpB Ek (by decide)
  have t12 : Fld Z T1.heap pB nPredec_4 "id" nMessag_5 (.ref mB) := (FpB.keep K1 (ninS ne11 nin0))
  have t13 : Exa Z T1.heap mB nMessag_6 := (EmB.keep K1)
  have ne14 : mB ≠ k := Exa.ne EmB Ek (by decide)
  have t15 : Fld Z T1.heap mB nMessag_6 "seq" "J" (.long sb) := (FmB.keep K1 (ninS ne14 nin0))
  obtain ⟨fs, hr, hrun, hended, hW, hsame⟩ := X1.leave (v := (some (.int (0 : Int32)))) (fun h => by rw [Bd.returns] at h; cases h)
  refine ⟨_, _, pre0 _ ?_, hrun, hended, _, _, rfl, ?_, ⟨_, rfl⟩, hW, hsame.mono (by decide) (by decide)⟩
  · refine XS.iloadN X0.here hx rfl (hb hby d_method_3_0) rfl ?_
    refine XS.ifYes X0.here hx rfl (pc0 := 1) (pc' := 24) rfl (hb hby d_method_3_1) rfl ((if0 _ _).trans (feq (by decide : ¬ ((3 : Int32) = (0 : Int32)))).2) (by decide) (by decide) ?_
    refine XS.iloadN X0.here hx rfl (hb hby d_method_3_24) rfl ?_
    refine XS.iconst X0.here hx rfl (hb hby d_method_3_25) ?_
    refine XS.icmpYes X0.here hx rfl (pc0 := 26) (pc' := 49) rfl (hb hby d_method_3_26) rfl (feq (by decide : ¬ ((3 : Int32) = (1 : Int32)))).2 (by decide) (by decide) ?_
    refine XS.iloadN X0.here hx rfl (hb hby d_method_3_49) rfl ?_
    refine XS.iconst X0.here hx rfl (hb hby d_method_3_50) ?_
    refine XS.icmpYes X0.here hx rfl (pc0 := 51) (pc' := 75) rfl (hb hby d_method_3_51) rfl (feq (by decide : ¬ ((3 : Int32) = (2 : Int32)))).2 (by decide) (by decide) ?_
    refine XS.aloadN X0.here hx rfl (hb hby d_method_3_75) rfl rfl ?_
    refine XS.lload X0.here hx rfl (hb hby d_method_3_76) rfl ?_
    refine st1.trans ?_
    refine XS.pop X1.here hx rfl (hb hby d_method_3_81) rfl rfl ?_
    refine XS.iload X1.here hx rfl (hb hby d_method_3_82) rfl ?_
    refine XS.iload X1.here hx rfl (hb hby d_method_3_84) rfl ?_
    refine XS.ifNo X1.here hx rfl (hb hby d_method_3_86) rfl ((if0 _ _).trans (feq (by decide : ¬ ((1 : Int32) = (0 : Int32)))).1) ?_
    refine XS.iconst X1.here hx rfl (hb hby d_method_3_89) ?_
    refine XS.goto X1.here hx rfl (pc0 := 90) (pc' := 94) rfl (hb hby d_method_3_90) (by decide) (by decide) ?_
    refine XS.iand X1.here hx rfl (hb hby d_method_3_94) rfl ?_
    show Steps p.tables e below (T1.setTop (mkF m 95 #[.val (.ref k), .val (.int (3 : Int32)), .val (.ref pA), .val (.ref pB), .val (.long sa), .second, .val (.long sb), .second, .val (.int (1 : Int32)), .val (.int (3 : Int32))] [(.int (0 : Int32))])) _
    exact retI X1 hx Bd.returns (hb hby d_method_3_95) hr
  · show QSE Z k pA mA sa pB mB sb h0 n0 _ T1.heap _
    exact ⟨_, rfl, N1, K3.1, O2, ⟨q1_0, gk, t4, t6, t7, t9, t10, t12, t13, t15⟩, Or.inl ⟨rfl, ⟨_, q1_2, q1_3, q1_1⟩⟩⟩
set_option maxRecDepth 65536 in
set_option maxHeartbeats 40000000 in
theorem rs_E_B_0 (l : Launch) (Z : State) (a0 : Array Value) (hw : ∀ d ∈ tables_1, d.before a0 Z = true) (ws : List Jvm.Cond) (cs : Int32) (aE : Addr) (hS : SB Z cs aE) (k pA mA : Addr) (sa : Int64) (pB mB : Addr) (sb : Int64) (h0 : Heap) (n0 : Nat) (O0 : Old Z n0 h0) (hq : sa = sb) (hFB : FB Z n0 h0 k pA mA sa pB mB sb) (hKS : KS1 Z h0 k pB sb) :
    Met l my_4 method_3_code 10 (some .int) ws ({ frames := 5, cells := 2, slots := 4, locals := 67 } : Room) #[(.ref k), (.int (0 : Int32)), (.ref pA), (.ref pB), (.long sa), (.long sb), (.int (1 : Int32)), (.int (3 : Int32))] Z h0 (QSE Z k pA mA sa pB mB sb h0 n0) := by
  refine MetFree.of_bodySF (plainFor_of_name pn_3) hisR ?_
  intro p e s m args below meth c s₁ Bd hml0 hP hK
  obtain ⟨rfl, hZ, hh⟩ := hP
  have hx := Bd.exec
  have hby := Bd.bytes
  have hml : c.maxLocals = 10 := hml0
  have hown : s.vm.findClass nKnownO_13 = some m.cls := findClass_of_methodNamed Bd.named
  have hnm := (name_of_methodNamed Bd.named Bd.method).1
  have X0 : Stand p l e ({ frames := 5, cells := 2, slots := 4, locals := 67 } : Room) s m #[(.ref k), (.int (0 : Int32)), (.ref pA), (.ref pB), (.long sa), (.long sb), (.int (1 : Int32)), (.int (3 : Int32))] below meth c s₁ [] 0 0 := Stand.of_body Bd
  have e0 : s₁.heap = h0 := by rw [← hh, Bd.state]; rfl
  have N0 := Fr.nil n0
  obtain ⟨f₀, hf₀⟩ : ∃ f, f = entryFrame m #[(.ref k), (.int (0 : Int32)), (.ref pA), (.ref pB), (.long sa), (.long sb), (.int (1 : Int32)), (.int (3 : Int32))] 10 := ⟨_, rfl⟩
  rw [← hf₀]
  have pre0 : Go p e below s₁ f₀ s₁ (mkF m 0 #[.val (.ref k), .val (.int (0 : Int32)), .val (.ref pA), .val (.ref pB), .val (.long sa), .second, .val (.long sb), .second, .val (.int (1 : Int32)), .val (.int (3 : Int32))] []) := fun t kk => castTop (hf₀.trans (ef_rs_E_B_0 m (k) ((0 : Int32)) (pA) (pB) (sa) (sb) ((1 : Int32)) ((3 : Int32)))) kk
  obtain ⟨Ek, gk, EpA, FpA, EmA, FmA, EpB, FpB, EmB, FmB⟩ := hFB
  obtain ⟨KN1, KN2, KN3⟩ := hKS
  obtain ⟨cq1, kq1, q1a, q1b, q1c⟩ := isOf hZ e0 (Ek)
  obtain ⟨_, _, ⟨T1, L1, k1, n1⟩, -, X1, ⟨Lc1, hQ1, l1, y1, z1⟩, st1⟩ := X0.virtualBack hx (y := my_3) (z := my_3) hown (mvT hZ (wq hw 139 rfl)) (mvT hZ (wq hw 140 rfl)) (notFace_of_selects (args := #[]) (mvT hZ (wq hw 142 rfl))) (mvT hZ (wq hw 142 rfl)) (mvT hZ (wq hw 141 rfl)) (by decide) (backOf (W := 0) (rc29_name l Z a0 hw [] cs aE hS k pA pB sb mA sa h0 n0 O0 gk Ek KN3 KN1 KN2 EpA FpA EmA FmA (Eq.symm hq)) hZ (wq hw 143 rfl) (wq hw 33 rfl) (by decide) (by decide)) q1a q1c (g := (mkF m 6 #[.val (.ref k), .val (.int (0 : Int32)), .val (.ref pA), .val (.ref pB), .val (.long sa), .second, .val (.long sb), .second, .val (.int (1 : Int32)), .val (.int (3 : Int32))] [(.ref pA), (.ref k)])) rfl (by rw [hml]; rfl) (Steps.refl _) (argsL := [(.ref pA)]) (rest := []) (lenOf pd_2 rfl) rfl (by show 2 * 0 + _ ≤ _; exact Nat.le_of_eq rfl) (hb hby d_method_3_6) (fun _ _ => ⟨rfl, e0, (by decide : 0 + 0 ≤ _), (by decide : 0 + 0 ≤ _)⟩)
  dsimp only [Pt.U, Pt.locs, Pt.cells, Pt.slots] at X1 l1 y1 z1 st1 hQ1
  have X1 := own_to X1 l1 y1 z1
  obtain ⟨rfl, N1q, K1, q1_0, q1_1, q1_2, q1_3⟩ := hQ1
  have N1 := Fr.app N0 N1q
  have O2 : Old Z n0 T1.heap := Old.keep O0 K1 (allS gk all0)
  have K3 : Keep h0 T1.heap [k] := (Keep.refl h0 [k]).trans K1 (allS (Or.inl (List.mem_of_getElem? (i := 0) rfl)) all0)
  have t4 : Exa Z T1.heap pA nPredec_4 := (EpA.keep K1)
  have ne5 : pA ≠ k := Exa.ne EpA Ek (by decide)
  have t6 : Fld Z T1.heap pA nPredec_4 "id" nMessag_5 (.ref mA) := (FpA.keep K1 (ninS ne5 nin0))
  have t7 : Exa Z T1.heap mA nMessag_6 := (EmA.keep K1)
  have ne8 : mA ≠ k := Exa.ne EmA Ek (by decide)
  have t9 : Fld Z T1.heap mA nMessag_6 "seq" "J" (.long sa) := (FmA.keep K1 (ninS ne8 nin0))
  have t10 : Exa Z T1.heap pB nPredec_4 := (EpB.keep K1)
  have ne11 : pB ≠ k := Exa.ne EpB Ek (by decide)
  have t12 : Fld Z T1.heap pB nPredec_4 "id" nMessag_5 (.ref mB) := (FpB.keep K1 (ninS ne11 nin0))
  have t13 : Exa Z T1.heap mB nMessag_6 := (EmB.keep K1)
  have ne14 : mB ≠ k := Exa.ne EmB Ek (by decide)
  have t15 : Fld Z T1.heap mB nMessag_6 "seq" "J" (.long sb) := (FmB.keep K1 (ninS ne14 nin0))
  obtain ⟨fs, hr, hrun, hended, hW, hsame⟩ := X1.leave (v := (some (.int (3 : Int32)))) (fun h => by rw [Bd.returns] at h; cases h)
  refine ⟨_, _, pre0 _ ?_, hrun, hended, _, _, rfl, ?_, ⟨_, rfl⟩, hW, hsame.mono (by decide) (by decide)⟩
  · refine XS.iloadN X0.here hx rfl (hb hby d_method_3_0) rfl ?_
    refine XS.ifNo X0.here hx rfl (hb hby d_method_3_1) rfl ((if0 _ _).trans (teq (by decide : (0 : Int32) = (0 : Int32))).2) ?_
    refine XS.aloadN X0.here hx rfl (hb hby d_method_3_4) rfl rfl ?_
    refine XS.aloadN X0.here hx rfl (hb hby d_method_3_5) rfl rfl ?_
    refine st1.trans ?_
    refine XS.pop X1.here hx rfl (hb hby d_method_3_9) rfl rfl ?_
    refine XS.iload X1.here hx rfl (hb hby d_method_3_10) rfl ?_
    refine XS.iload X1.here hx rfl (hb hby d_method_3_12) rfl ?_
    refine XS.ifNo X1.here hx rfl (hb hby d_method_3_14) rfl ((if0 _ _).trans (feq (by decide : ¬ ((1 : Int32) = (0 : Int32)))).1) ?_
    refine XS.iconst X1.here hx rfl (hb hby d_method_3_17) ?_
    refine XS.goto X1.here hx rfl (pc0 := 18) (pc' := 22) rfl (hb hby d_method_3_18) (by decide) (by decide) ?_
    refine XS.ior X1.here hx rfl (hb hby d_method_3_22) rfl ?_
    show Steps p.tables e below (T1.setTop (mkF m 23 #[.val (.ref k), .val (.int (0 : Int32)), .val (.ref pA), .val (.ref pB), .val (.long sa), .second, .val (.long sb), .second, .val (.int (1 : Int32)), .val (.int (3 : Int32))] [(.int (3 : Int32))])) _
    exact retI X1 hx Bd.returns (hb hby d_method_3_23) hr
  · show QSE Z k pA mA sa pB mB sb h0 n0 _ T1.heap _
    exact ⟨_, rfl, N1, K3.1, O2, ⟨q1_0, gk, t4, t6, t7, t9, t10, t12, t13, t15⟩, Or.inr (Or.inl ⟨rfl, ⟨q1_2, q1_3, q1_1⟩⟩)⟩
set_option maxRecDepth 65536 in
set_option maxHeartbeats 40000000 in
theorem rs_E_B_1 (l : Launch) (Z : State) (a0 : Array Value) (hw : ∀ d ∈ tables_1, d.before a0 Z = true) (ws : List Jvm.Cond) (cs : Int32) (aE : Addr) (hS : SB Z cs aE) (k pA mA : Addr) (sa : Int64) (pB mB : Addr) (sb : Int64) (h0 : Heap) (n0 : Nat) (O0 : Old Z n0 h0) (hq : sa = sb) (hFB : FB Z n0 h0 k pA mA sa pB mB sb) (hKS : KS1 Z h0 k pB sb) :
    Met l my_4 method_3_code 10 (some .int) ws ({ frames := 5, cells := 2, slots := 4, locals := 67 } : Room) #[(.ref k), (.int (1 : Int32)), (.ref pA), (.ref pB), (.long sa), (.long sb), (.int (1 : Int32)), (.int (3 : Int32))] Z h0 (QSE Z k pA mA sa pB mB sb h0 n0) := by
  refine MetFree.of_bodySF (plainFor_of_name pn_3) hisR ?_
  intro p e s m args below meth c s₁ Bd hml0 hP hK
  obtain ⟨rfl, hZ, hh⟩ := hP
  have hx := Bd.exec
  have hby := Bd.bytes
  have hml : c.maxLocals = 10 := hml0
  have hown : s.vm.findClass nKnownO_13 = some m.cls := findClass_of_methodNamed Bd.named
  have hnm := (name_of_methodNamed Bd.named Bd.method).1
  have X0 : Stand p l e ({ frames := 5, cells := 2, slots := 4, locals := 67 } : Room) s m #[(.ref k), (.int (1 : Int32)), (.ref pA), (.ref pB), (.long sa), (.long sb), (.int (1 : Int32)), (.int (3 : Int32))] below meth c s₁ [] 0 0 := Stand.of_body Bd
  have e0 : s₁.heap = h0 := by rw [← hh, Bd.state]; rfl
  have N0 := Fr.nil n0
  obtain ⟨f₀, hf₀⟩ : ∃ f, f = entryFrame m #[(.ref k), (.int (1 : Int32)), (.ref pA), (.ref pB), (.long sa), (.long sb), (.int (1 : Int32)), (.int (3 : Int32))] 10 := ⟨_, rfl⟩
  rw [← hf₀]
  have pre0 : Go p e below s₁ f₀ s₁ (mkF m 0 #[.val (.ref k), .val (.int (1 : Int32)), .val (.ref pA), .val (.ref pB), .val (.long sa), .second, .val (.long sb), .second, .val (.int (1 : Int32)), .val (.int (3 : Int32))] []) := fun t kk => castTop (hf₀.trans (ef_rs_E_B_1 m (k) ((1 : Int32)) (pA) (pB) (sa) (sb) ((1 : Int32)) ((3 : Int32)))) kk
  obtain ⟨Ek, gk, EpA, FpA, EmA, FmA, EpB, FpB, EmB, FmB⟩ := hFB
  obtain ⟨KN1, KN2, KN3⟩ := hKS
  obtain ⟨cq1, kq1, q1a, q1b, q1c⟩ := isOf hZ e0 (Ek)
  obtain ⟨_, _, ⟨T1, L1, k1, n1⟩, -, X1, ⟨Lc1, hQ1, l1, y1, z1⟩, st1⟩ := X0.virtualBack hx (y := my_3) (z := my_3) hown (mvT hZ (wq hw 139 rfl)) (mvT hZ (wq hw 140 rfl)) (notFace_of_selects (args := #[]) (mvT hZ (wq hw 142 rfl))) (mvT hZ (wq hw 142 rfl)) (mvT hZ (wq hw 141 rfl)) (by decide) (backOf (W := 0) (rc5_name l Z a0 hw [] cs aE hS k pB sb mB h0 n0 O0 gk Ek KN3 KN1 KN2 EpB FpB EmB FmB) hZ (wq hw 143 rfl) (wq hw 33 rfl) (by decide) (by decide)) q1a q1c (g := (mkF m 31 #[.val (.ref k), .val (.int (1 : Int32)), .val (.ref pA), .val (.ref pB), .val (.long sa), .second, .val (.long sb), .second, .val (.int (1 : Int32)), .val (.int (3 : Int32))] [(.ref pB), (.ref k)])) rfl (by rw [hml]; rfl) (Steps.refl _) (argsL := [(.ref pB)]) (rest := []) (lenOf pd_2 rfl) rfl (by show 2 * 0 + _ ≤ _; exact Nat.le_of_eq rfl) (hb hby d_method_3_31) (fun _ _ => ⟨rfl, e0, (by decide : 0 + 0 ≤ _), (by decide : 0 + 0 ≤ _)⟩)
  dsimp only [Pt.U, Pt.locs, Pt.cells, Pt.slots] at X1 l1 y1 z1 st1 hQ1
  have X1 := own_to X1 l1 y1 z1
  obtain ⟨rfl, N1q, K1, q1_0, q1_1, q1_2, q1_3⟩ := hQ1
  have N1 := Fr.app N0 N1q
  have O2 : Old Z n0 T1.heap := Old.keep O0 K1 (allS gk all0)
  have K3 : Keep h0 T1.heap [k] := (Keep.refl h0 [k]).trans K1 (allS (Or.inl (List.mem_of_getElem? (i := 0) rfl)) all0)
  have t4 : Exa Z T1.heap pA nPredec_4 := (EpA.keep K1)
  have ne5 : pA ≠ k := Exa.ne EpA Ek (by decide)
  have t6 : Fld Z T1.heap pA nPredec_4 "id" nMessag_5 (.ref mA) := (FpA.keep K1 (ninS ne5 nin0))
  have t7 : Exa Z T1.heap mA nMessag_6 := (EmA.keep K1)
  have ne8 : mA ≠ k := Exa.ne EmA Ek (by decide)
  have t9 : Fld Z T1.heap mA nMessag_6 "seq" "J" (.long sa) := (FmA.keep K1 (ninS ne8 nin0))
  have t10 : Exa Z T1.heap pB nPredec_4 := (EpB.keep K1)
  have ne11 : pB ≠ k := Exa.ne EpB Ek (by decide)
  have t12 : Fld Z T1.heap pB nPredec_4 "id" nMessag_5 (.ref mB) := (FpB.keep K1 (ninS ne11 nin0))
  have t13 : Exa Z T1.heap mB nMessag_6 := (EmB.keep K1)
  have ne14 : mB ≠ k := Exa.ne EmB Ek (by decide)
  have t15 : Fld Z T1.heap mB nMessag_6 "seq" "J" (.long sb) := (FmB.keep K1 (ninS ne14 nin0))
  obtain ⟨fs, hr, hrun, hended, hW, hsame⟩ := X1.leave (v := (some (.int (3 : Int32)))) (fun h => by rw [Bd.returns] at h; cases h)
  refine ⟨_, _, pre0 _ ?_, hrun, hended, _, _, rfl, ?_, ⟨_, rfl⟩, hW, hsame.mono (by decide) (by decide)⟩
  · refine XS.iloadN X0.here hx rfl (hb hby d_method_3_0) rfl ?_
    refine XS.ifYes X0.here hx rfl (pc0 := 1) (pc' := 24) rfl (hb hby d_method_3_1) rfl ((if0 _ _).trans (feq (by decide : ¬ ((1 : Int32) = (0 : Int32)))).2) (by decide) (by decide) ?_
    refine XS.iloadN X0.here hx rfl (hb hby d_method_3_24) rfl ?_
    refine XS.iconst X0.here hx rfl (hb hby d_method_3_25) ?_
    refine XS.icmpNo X0.here hx rfl (hb hby d_method_3_26) rfl (teq (by decide : (1 : Int32) = (1 : Int32))).2 ?_
    refine XS.aloadN X0.here hx rfl (hb hby d_method_3_29) rfl rfl ?_
    refine XS.aloadN X0.here hx rfl (hb hby d_method_3_30) rfl rfl ?_
    refine st1.trans ?_
    refine XS.pop X1.here hx rfl (hb hby d_method_3_34) rfl rfl ?_
    refine XS.iload X1.here hx rfl (hb hby d_method_3_35) rfl ?_
    refine XS.iload X1.here hx rfl (hb hby d_method_3_37) rfl ?_
    refine XS.ifNo X1.here hx rfl (hb hby d_method_3_39) rfl ((if0 _ _).trans (feq (by decide : ¬ ((1 : Int32) = (0 : Int32)))).1) ?_
    refine XS.iconst X1.here hx rfl (hb hby d_method_3_42) ?_
    refine XS.goto X1.here hx rfl (pc0 := 43) (pc' := 47) rfl (hb hby d_method_3_43) (by decide) (by decide) ?_
    refine XS.ior X1.here hx rfl (hb hby d_method_3_47) rfl ?_
    show Steps p.tables e below (T1.setTop (mkF m 48 #[.val (.ref k), .val (.int (1 : Int32)), .val (.ref pA), .val (.ref pB), .val (.long sa), .second, .val (.long sb), .second, .val (.int (1 : Int32)), .val (.int (3 : Int32))] [(.int (3 : Int32))])) _
    exact retI X1 hx Bd.returns (hb hby d_method_3_48) hr
  · show QSE Z k pA mA sa pB mB sb h0 n0 _ T1.heap _
    exact ⟨_, rfl, N1, K3.1, O2, ⟨q1_0, gk, t4, t6, t7, t9, t10, t12, t13, t15⟩, Or.inr (Or.inr (⟨rfl, ⟨q1_2, q1_3, q1_1⟩⟩))⟩
set_option maxRecDepth 65536 in
set_option maxHeartbeats 40000000 in
theorem rs_E_B_2 (l : Launch) (Z : State) (a0 : Array Value) (hw : ∀ d ∈ tables_1, d.before a0 Z = true) (ws : List Jvm.Cond) (cs : Int32) (aE : Addr) (hS : SB Z cs aE) (k pA mA : Addr) (sa : Int64) (pB mB : Addr) (sb : Int64) (h0 : Heap) (n0 : Nat) (O0 : Old Z n0 h0) (hq : sa = sb) (hFB : FB Z n0 h0 k pA mA sa pB mB sb) (hKS : KS1 Z h0 k pB sb) :
    Met l my_4 method_3_code 10 (some .int) ws ({ frames := 5, cells := 2, slots := 4, locals := 67 } : Room) #[(.ref k), (.int (2 : Int32)), (.ref pA), (.ref pB), (.long sa), (.long sb), (.int (1 : Int32)), (.int (3 : Int32))] Z h0 (QSE Z k pA mA sa pB mB sb h0 n0) := by
  refine MetFree.of_bodySF (plainFor_of_name pn_3) hisR ?_
  intro p e s m args below meth c s₁ Bd hml0 hP hK
  obtain ⟨rfl, hZ, hh⟩ := hP
  have hx := Bd.exec
  have hby := Bd.bytes
  have hml : c.maxLocals = 10 := hml0
  have hown : s.vm.findClass nKnownO_13 = some m.cls := findClass_of_methodNamed Bd.named
  have hnm := (name_of_methodNamed Bd.named Bd.method).1
  have X0 : Stand p l e ({ frames := 5, cells := 2, slots := 4, locals := 67 } : Room) s m #[(.ref k), (.int (2 : Int32)), (.ref pA), (.ref pB), (.long sa), (.long sb), (.int (1 : Int32)), (.int (3 : Int32))] below meth c s₁ [] 0 0 := Stand.of_body Bd
  have e0 : s₁.heap = h0 := by rw [← hh, Bd.state]; rfl
  have N0 := Fr.nil n0
  obtain ⟨f₀, hf₀⟩ : ∃ f, f = entryFrame m #[(.ref k), (.int (2 : Int32)), (.ref pA), (.ref pB), (.long sa), (.long sb), (.int (1 : Int32)), (.int (3 : Int32))] 10 := ⟨_, rfl⟩
  rw [← hf₀]
  have pre0 : Go p e below s₁ f₀ s₁ (mkF m 0 #[.val (.ref k), .val (.int (2 : Int32)), .val (.ref pA), .val (.ref pB), .val (.long sa), .second, .val (.long sb), .second, .val (.int (1 : Int32)), .val (.int (3 : Int32))] []) := fun t kk => castTop (hf₀.trans (ef_rs_E_B_2 m (k) ((2 : Int32)) (pA) (pB) (sa) (sb) ((1 : Int32)) ((3 : Int32)))) kk
  obtain ⟨Ek, gk, EpA, FpA, EmA, FmA, EpB, FpB, EmB, FmB⟩ := hFB
  obtain ⟨KN1, KN2, KN3⟩ := hKS
  obtain ⟨cq1, kq1, q1a, q1b, q1c⟩ := isOf hZ e0 (Ek)
  obtain ⟨_, _, ⟨T1, L1, k1, n1⟩, -, X1, ⟨Lc1, hQ1, l1, y1, z1⟩, st1⟩ := X0.virtualBack hx (y := my_5) (z := my_5) hown (mvT hZ (wq hw 134 rfl)) (mvT hZ (wq hw 135 rfl)) (notFace_of_selects (args := #[]) (mvT hZ (wq hw 137 rfl))) (mvT hZ (wq hw 137 rfl)) (mvT hZ (wq hw 136 rfl)) (by decide) (backOf (W := 0) (rc30_unname l Z a0 hw [] cs aE hS k sa pB sb h0 n0 O0 gk Ek KN3 KN1 KN2 (Eq.symm hq)) hZ (wq hw 138 rfl) (wq hw 33 rfl) (by decide) (by decide)) q1a q1c (g := (mkF m 57 #[.val (.ref k), .val (.int (2 : Int32)), .val (.ref pA), .val (.ref pB), .val (.long sa), .second, .val (.long sb), .second, .val (.int (1 : Int32)), .val (.int (3 : Int32))] [(.long sa), (.ref k)])) rfl (by rw [hml]; rfl) (Steps.refl _) (argsL := [(.long sa)]) (rest := []) (lenOf pd_3 rfl) rfl (by show 2 * 0 + _ ≤ _; exact Nat.le_of_eq rfl) (hb hby d_method_3_57) (fun _ _ => ⟨rfl, e0, (by decide : 0 + 0 ≤ _), (by decide : 0 + 0 ≤ _)⟩)
  dsimp only [Pt.U, Pt.locs, Pt.cells, Pt.slots] at X1 l1 y1 z1 st1 hQ1
  have X1 := own_to X1 l1 y1 z1
  obtain ⟨rfl, N1q, K1, q1_0, q1_1, q1_2, q1_3⟩ := hQ1
  have N1 := Fr.app N0 N1q
  have O2 : Old Z n0 T1.heap := Old.keep O0 K1 (allS gk all0)
  have K3 : Keep h0 T1.heap [k] := (Keep.refl h0 [k]).trans K1 (allS (Or.inl (List.mem_of_getElem? (i := 0) rfl)) all0)
  have t4 : Exa Z T1.heap pA nPredec_4 := (EpA.keep K1)
  have ne5 : pA ≠ k := Exa.ne EpA Ek (by decide)
  have t6 : Fld Z T1.heap pA nPredec_4 "id" nMessag_5 (.ref mA) := (FpA.keep K1 (ninS ne5 nin0))
  have t7 : Exa Z T1.heap mA nMessag_6 := (EmA.keep K1)
  have ne8 : mA ≠ k := Exa.ne EmA Ek (by decide)
  have t9 : Fld Z T1.heap mA nMessag_6 "seq" "J" (.long sa) := (FmA.keep K1 (ninS ne8 nin0))
  have t10 : Exa Z T1.heap pB nPredec_4 := (EpB.keep K1)
  have ne11 : pB ≠ k := Exa.ne EpB Ek (by decide)
  have t12 : Fld Z T1.heap pB nPredec_4 "id" nMessag_5 (.ref mB) := (FpB.keep K1 (ninS ne11 nin0))
  have t13 : Exa Z T1.heap mB nMessag_6 := (EmB.keep K1)
  have ne14 : mB ≠ k := Exa.ne EmB Ek (by decide)
  have t15 : Fld Z T1.heap mB nMessag_6 "seq" "J" (.long sb) := (FmB.keep K1 (ninS ne14 nin0))
  obtain ⟨fs, hr, hrun, hended, hW, hsame⟩ := X1.leave (v := (some (.int (0 : Int32)))) (fun h => by rw [Bd.returns] at h; cases h)
  refine ⟨_, _, pre0 _ ?_, hrun, hended, _, _, rfl, ?_, ⟨_, rfl⟩, hW, hsame.mono (by decide) (by decide)⟩
  · refine XS.iloadN X0.here hx rfl (hb hby d_method_3_0) rfl ?_
    refine XS.ifYes X0.here hx rfl (pc0 := 1) (pc' := 24) rfl (hb hby d_method_3_1) rfl ((if0 _ _).trans (feq (by decide : ¬ ((2 : Int32) = (0 : Int32)))).2) (by decide) (by decide) ?_
    refine XS.iloadN X0.here hx rfl (hb hby d_method_3_24) rfl ?_
    refine XS.iconst X0.here hx rfl (hb hby d_method_3_25) ?_
    refine XS.icmpYes X0.here hx rfl (pc0 := 26) (pc' := 49) rfl (hb hby d_method_3_26) rfl (feq (by decide : ¬ ((2 : Int32) = (1 : Int32)))).2 (by decide) (by decide) ?_
    refine XS.iloadN X0.here hx rfl (hb hby d_method_3_49) rfl ?_
    refine XS.iconst X0.here hx rfl (hb hby d_method_3_50) ?_
    refine XS.icmpNo X0.here hx rfl (hb hby d_method_3_51) rfl (teq (by decide : (2 : Int32) = (2 : Int32))).2 ?_
    refine XS.aloadN X0.here hx rfl (hb hby d_method_3_54) rfl rfl ?_
    refine XS.lload X0.here hx rfl (hb hby d_method_3_55) rfl ?_
    refine st1.trans ?_
    refine XS.pop X1.here hx rfl (hb hby d_method_3_60) rfl rfl ?_
    refine XS.iload X1.here hx rfl (hb hby d_method_3_61) rfl ?_
    refine XS.iload X1.here hx rfl (hb hby d_method_3_63) rfl ?_
    refine XS.ifNo X1.here hx rfl (hb hby d_method_3_65) rfl ((if0 _ _).trans (feq (by decide : ¬ ((1 : Int32) = (0 : Int32)))).1) ?_
    refine XS.iconst X1.here hx rfl (hb hby d_method_3_68) ?_
    refine XS.goto X1.here hx rfl (pc0 := 69) (pc' := 73) rfl (hb hby d_method_3_69) (by decide) (by decide) ?_
    refine XS.iand X1.here hx rfl (hb hby d_method_3_73) rfl ?_
    show Steps p.tables e below (T1.setTop (mkF m 74 #[.val (.ref k), .val (.int (2 : Int32)), .val (.ref pA), .val (.ref pB), .val (.long sa), .second, .val (.long sb), .second, .val (.int (1 : Int32)), .val (.int (3 : Int32))] [(.int (0 : Int32))])) _
    exact retI X1 hx Bd.returns (hb hby d_method_3_74) hr
  · show QSE Z k pA mA sa pB mB sb h0 n0 _ T1.heap _
    exact ⟨_, rfl, N1, K3.1, O2, ⟨q1_0, gk, t4, t6, t7, t9, t10, t12, t13, t15⟩, Or.inl ⟨rfl, ⟨_, q1_2, q1_3, q1_1⟩⟩⟩
set_option maxRecDepth 65536 in
set_option maxHeartbeats 40000000 in
theorem rs_E_B_3 (l : Launch) (Z : State) (a0 : Array Value) (hw : ∀ d ∈ tables_1, d.before a0 Z = true) (ws : List Jvm.Cond) (cs : Int32) (aE : Addr) (hS : SB Z cs aE) (k pA mA : Addr) (sa : Int64) (pB mB : Addr) (sb : Int64) (h0 : Heap) (n0 : Nat) (O0 : Old Z n0 h0) (hq : sa = sb) (hFB : FB Z n0 h0 k pA mA sa pB mB sb) (hKS : KS1 Z h0 k pB sb) :
    Met l my_4 method_3_code 10 (some .int) ws ({ frames := 5, cells := 2, slots := 4, locals := 67 } : Room) #[(.ref k), (.int (3 : Int32)), (.ref pA), (.ref pB), (.long sa), (.long sb), (.int (1 : Int32)), (.int (3 : Int32))] Z h0 (QSE Z k pA mA sa pB mB sb h0 n0) := by
  refine MetFree.of_bodySF (plainFor_of_name pn_3) hisR ?_
  intro p e s m args below meth c s₁ Bd hml0 hP hK
  obtain ⟨rfl, hZ, hh⟩ := hP
  have hx := Bd.exec
  have hby := Bd.bytes
  have hml : c.maxLocals = 10 := hml0
  have hown : s.vm.findClass nKnownO_13 = some m.cls := findClass_of_methodNamed Bd.named
  have hnm := (name_of_methodNamed Bd.named Bd.method).1
  have X0 : Stand p l e ({ frames := 5, cells := 2, slots := 4, locals := 67 } : Room) s m #[(.ref k), (.int (3 : Int32)), (.ref pA), (.ref pB), (.long sa), (.long sb), (.int (1 : Int32)), (.int (3 : Int32))] below meth c s₁ [] 0 0 := Stand.of_body Bd
  have e0 : s₁.heap = h0 := by rw [← hh, Bd.state]; rfl
  have N0 := Fr.nil n0
  obtain ⟨f₀, hf₀⟩ : ∃ f, f = entryFrame m #[(.ref k), (.int (3 : Int32)), (.ref pA), (.ref pB), (.long sa), (.long sb), (.int (1 : Int32)), (.int (3 : Int32))] 10 := ⟨_, rfl⟩
  rw [← hf₀]
  have pre0 : Go p e below s₁ f₀ s₁ (mkF m 0 #[.val (.ref k), .val (.int (3 : Int32)), .val (.ref pA), .val (.ref pB), .val (.long sa), .second, .val (.long sb), .second, .val (.int (1 : Int32)), .val (.int (3 : Int32))] []) := fun t kk => castTop (hf₀.trans (ef_rs_E_B_3 m (k) ((3 : Int32)) (pA) (pB) (sa) (sb) ((1 : Int32)) ((3 : Int32)))) kk
  obtain ⟨Ek, gk, EpA, FpA, EmA, FmA, EpB, FpB, EmB, FmB⟩ := hFB
  obtain ⟨KN1, KN2, KN3⟩ := hKS
  obtain ⟨cq1, kq1, q1a, q1b, q1c⟩ := isOf hZ e0 (Ek)
  obtain ⟨_, _, ⟨T1, L1, k1, n1⟩, -, X1, ⟨Lc1, hQ1, l1, y1, z1⟩, st1⟩ := X0.virtualBack hx (y := my_5) (z := my_5) hown (mvT hZ (wq hw 134 rfl)) (mvT hZ (wq hw 135 rfl)) (notFace_of_selects (args := #[]) (mvT hZ (wq hw 137 rfl))) (mvT hZ (wq hw 137 rfl)) (mvT hZ (wq hw 136 rfl)) (by decide) (backOf (W := 0) (rc13_unname l Z a0 hw [] cs aE hS k sb pB h0 n0 O0 gk Ek KN3 KN1 KN2) hZ (wq hw 138 rfl) (wq hw 33 rfl) (by decide) (by decide)) q1a q1c (g := (mkF m 78 #[.val (.ref k), .val (.int (3 : Int32)), .val (.ref pA), .val (.ref pB), .val (.long sa), .second, .val (.long sb), .second, .val (.int (1 : Int32)), .val (.int (3 : Int32))] [(.long sb), (.ref k)])) rfl (by rw [hml]; rfl) (Steps.refl _) (argsL := [(.long sb)]) (rest := []) (lenOf pd_3 rfl) rfl (by show 2 * 0 + _ ≤ _; exact Nat.le_of_eq rfl) (hb hby d_method_3_78) (fun _ _ => ⟨rfl, e0, (by decide : 0 + 0 ≤ _), (by decide : 0 + 0 ≤ _)⟩)
  dsimp only [Pt.U, Pt.locs, Pt.cells, Pt.slots] at X1 l1 y1 z1 st1 hQ1
  have X1 := own_to X1 l1 y1 z1
  obtain ⟨rfl, N1q, K1, q1_0, q1_1, q1_2, q1_3⟩ := hQ1
  have N1 := Fr.app N0 N1q
  have O2 : Old Z n0 T1.heap := Old.keep O0 K1 (allS gk all0)
  have K3 : Keep h0 T1.heap [k] := (Keep.refl h0 [k]).trans K1 (allS (Or.inl (List.mem_of_getElem? (i := 0) rfl)) all0)
  have t4 : Exa Z T1.heap pA nPredec_4 := (EpA.keep K1)
  have ne5 : pA ≠ k := Exa.ne EpA Ek (by decide)
  have t6 : Fld Z T1.heap pA nPredec_4 "id" nMessag_5 (.ref mA) := (FpA.keep K1 (ninS ne5 nin0))
  have t7 : Exa Z T1.heap mA nMessag_6 := (EmA.keep K1)
  have ne8 : mA ≠ k := Exa.ne EmA Ek (by decide)
  have t9 : Fld Z T1.heap mA nMessag_6 "seq" "J" (.long sa) := (FmA.keep K1 (ninS ne8 nin0))
  have t10 : Exa Z T1.heap pB nPredec_4 := (EpB.keep K1)
  have ne11 : pB ≠ k := Exa.ne EpB Ek (by decide)
  have t12 : Fld Z T1.heap pB nPredec_4 "id" nMessag_5 (.ref mB) := (FpB.keep K1 (ninS ne11 nin0))
  have t13 : Exa Z T1.heap mB nMessag_6 := (EmB.keep K1)
  have ne14 : mB ≠ k := Exa.ne EmB Ek (by decide)
  have t15 : Fld Z T1.heap mB nMessag_6 "seq" "J" (.long sb) := (FmB.keep K1 (ninS ne14 nin0))
  obtain ⟨fs, hr, hrun, hended, hW, hsame⟩ := X1.leave (v := (some (.int (0 : Int32)))) (fun h => by rw [Bd.returns] at h; cases h)
  refine ⟨_, _, pre0 _ ?_, hrun, hended, _, _, rfl, ?_, ⟨_, rfl⟩, hW, hsame.mono (by decide) (by decide)⟩
  · refine XS.iloadN X0.here hx rfl (hb hby d_method_3_0) rfl ?_
    refine XS.ifYes X0.here hx rfl (pc0 := 1) (pc' := 24) rfl (hb hby d_method_3_1) rfl ((if0 _ _).trans (feq (by decide : ¬ ((3 : Int32) = (0 : Int32)))).2) (by decide) (by decide) ?_
    refine XS.iloadN X0.here hx rfl (hb hby d_method_3_24) rfl ?_
    refine XS.iconst X0.here hx rfl (hb hby d_method_3_25) ?_
    refine XS.icmpYes X0.here hx rfl (pc0 := 26) (pc' := 49) rfl (hb hby d_method_3_26) rfl (feq (by decide : ¬ ((3 : Int32) = (1 : Int32)))).2 (by decide) (by decide) ?_
    refine XS.iloadN X0.here hx rfl (hb hby d_method_3_49) rfl ?_
    refine XS.iconst X0.here hx rfl (hb hby d_method_3_50) ?_
    refine XS.icmpYes X0.here hx rfl (pc0 := 51) (pc' := 75) rfl (hb hby d_method_3_51) rfl (feq (by decide : ¬ ((3 : Int32) = (2 : Int32)))).2 (by decide) (by decide) ?_
    refine XS.aloadN X0.here hx rfl (hb hby d_method_3_75) rfl rfl ?_
    refine XS.lload X0.here hx rfl (hb hby d_method_3_76) rfl ?_
    refine st1.trans ?_
    refine XS.pop X1.here hx rfl (hb hby d_method_3_81) rfl rfl ?_
    refine XS.iload X1.here hx rfl (hb hby d_method_3_82) rfl ?_
    refine XS.iload X1.here hx rfl (hb hby d_method_3_84) rfl ?_
    refine XS.ifNo X1.here hx rfl (hb hby d_method_3_86) rfl ((if0 _ _).trans (feq (by decide : ¬ ((1 : Int32) = (0 : Int32)))).1) ?_
    refine XS.iconst X1.here hx rfl (hb hby d_method_3_89) ?_
    refine XS.goto X1.here hx rfl (pc0 := 90) (pc' := 94) rfl (hb hby d_method_3_90) (by decide) (by decide) ?_
    refine XS.iand X1.here hx rfl (hb hby d_method_3_94) rfl ?_
    show Steps p.tables e below (T1.setTop (mkF m 95 #[.val (.ref k), .val (.int (3 : Int32)), .val (.ref pA), .val (.ref pB), .val (.long sa), .second, .val (.long sb), .second, .val (.int (1 : Int32)), .val (.int (3 : Int32))] [(.int (0 : Int32))])) _
    exact retI X1 hx Bd.returns (hb hby d_method_3_95) hr
  · show QSE Z k pA mA sa pB mB sb h0 n0 _ T1.heap _
    exact ⟨_, rfl, N1, K3.1, O2, ⟨q1_0, gk, t4, t6, t7, t9, t10, t12, t13, t15⟩, Or.inl ⟨rfl, ⟨_, q1_2, q1_3, q1_1⟩⟩⟩
set_option maxHeartbeats 4000000 in
theorem rm_stepN (l : Launch) (Z : State) (a0 : Array Value) (hw : ∀ d ∈ tables_1, d.before a0 Z = true) (ws : List Jvm.Cond) (cs : Int32) (aE : Addr) (hS : SB Z cs aE) (k pA mA : Addr) (sa : Int64) (pB mB : Addr) (sb : Int64) (c st : Int32) (h0 : Heap) (n0 : Nat) (O0 : Old Z n0 h0) (hq : ¬ sa = sb) (hc : c = 0 ∨ c = 1 ∨ c = 2 ∨ c = 3) (I : InvN Z n0 h0 k pA mA sa pB mB sb st) :
    MetFree l my_4 (head1 (Jvm.Cond.code my_4 method_3_code 10 (some .int) :: ws) ({ frames := 5, cells := 2, slots := 4, locals := 67 } : Room)) (fun a U => a = #[(.ref k), (.int c), (.ref pA), (.ref pB), (.long sa), (.long sb), (.int (0 : Int32)), (.int st)] ∧ Z.Warmed39 U.vm ∧ U.heap = h0) (fun _ _ _ _ _ => True) (fun _ U o U' => ∃ v L, o = .returned v ∧ QSN Z k pA mA sa pB mB sb h0 n0 v U'.heap L ∧ FrameEnd U o U' L ({ frames := 5, cells := 2, slots := 4, locals := 67 } : Room).cells ({ frames := 5, cells := 2, slots := 4, locals := 67 } : Room).slots) := by
  obtain ⟨hFB, I⟩ := I
  rcases hc with rfl | rfl | rfl | rfl
  · rcases I with ⟨rfl, hKS⟩ | ⟨rfl, hKS⟩ | ⟨rfl, hKS⟩ | ⟨rfl, hKS⟩ | ⟨rfl, hKS⟩
    · exact rs_N_0_0 l Z a0 hw ws cs aE hS k pA mA sa pB mB sb h0 n0 O0 hq hFB hKS
    · exact rs_N_A_0 l Z a0 hw ws cs aE hS k pA mA sa pB mB sb h0 n0 O0 hq hFB hKS
    · exact rs_N_B_0 l Z a0 hw ws cs aE hS k pA mA sa pB mB sb h0 n0 O0 hq hFB hKS
    · exact rs_N_AB_0 l Z a0 hw ws cs aE hS k pA mA sa pB mB sb h0 n0 O0 hq hFB hKS
    · exact rs_N_BA_0 l Z a0 hw ws cs aE hS k pA mA sa pB mB sb h0 n0 O0 hq hFB hKS
  · rcases I with ⟨rfl, hKS⟩ | ⟨rfl, hKS⟩ | ⟨rfl, hKS⟩ | ⟨rfl, hKS⟩ | ⟨rfl, hKS⟩
    · exact rs_N_0_1 l Z a0 hw ws cs aE hS k pA mA sa pB mB sb h0 n0 O0 hq hFB hKS
    · exact rs_N_A_1 l Z a0 hw ws cs aE hS k pA mA sa pB mB sb h0 n0 O0 hq hFB hKS
    · exact rs_N_B_1 l Z a0 hw ws cs aE hS k pA mA sa pB mB sb h0 n0 O0 hq hFB hKS
    · exact rs_N_AB_1 l Z a0 hw ws cs aE hS k pA mA sa pB mB sb h0 n0 O0 hq hFB hKS
    · exact rs_N_BA_1 l Z a0 hw ws cs aE hS k pA mA sa pB mB sb h0 n0 O0 hq hFB hKS
  · rcases I with ⟨rfl, hKS⟩ | ⟨rfl, hKS⟩ | ⟨rfl, hKS⟩ | ⟨rfl, hKS⟩ | ⟨rfl, hKS⟩
    · exact rs_N_0_2 l Z a0 hw ws cs aE hS k pA mA sa pB mB sb h0 n0 O0 hq hFB hKS
    · exact rs_N_A_2 l Z a0 hw ws cs aE hS k pA mA sa pB mB sb h0 n0 O0 hq hFB hKS
    · exact rs_N_B_2 l Z a0 hw ws cs aE hS k pA mA sa pB mB sb h0 n0 O0 hq hFB hKS
    · exact rs_N_AB_2 l Z a0 hw ws cs aE hS k pA mA sa pB mB sb h0 n0 O0 hq hFB hKS
    · exact rs_N_BA_2 l Z a0 hw ws cs aE hS k pA mA sa pB mB sb h0 n0 O0 hq hFB hKS
  · rcases I with ⟨rfl, hKS⟩ | ⟨rfl, hKS⟩ | ⟨rfl, hKS⟩ | ⟨rfl, hKS⟩ | ⟨rfl, hKS⟩
    · exact rs_N_0_3 l Z a0 hw ws cs aE hS k pA mA sa pB mB sb h0 n0 O0 hq hFB hKS
    · exact rs_N_A_3 l Z a0 hw ws cs aE hS k pA mA sa pB mB sb h0 n0 O0 hq hFB hKS
    · exact rs_N_B_3 l Z a0 hw ws cs aE hS k pA mA sa pB mB sb h0 n0 O0 hq hFB hKS
    · exact rs_N_AB_3 l Z a0 hw ws cs aE hS k pA mA sa pB mB sb h0 n0 O0 hq hFB hKS
    · exact rs_N_BA_3 l Z a0 hw ws cs aE hS k pA mA sa pB mB sb h0 n0 O0 hq hFB hKS
set_option maxHeartbeats 4000000 in
theorem rm_stepE (l : Launch) (Z : State) (a0 : Array Value) (hw : ∀ d ∈ tables_1, d.before a0 Z = true) (ws : List Jvm.Cond) (cs : Int32) (aE : Addr) (hS : SB Z cs aE) (k pA mA : Addr) (sa : Int64) (pB mB : Addr) (sb : Int64) (c st : Int32) (h0 : Heap) (n0 : Nat) (O0 : Old Z n0 h0) (hq : sa = sb) (hc : c = 0 ∨ c = 1 ∨ c = 2 ∨ c = 3) (I : InvE Z n0 h0 k pA mA sa pB mB sb st) :
    MetFree l my_4 (head1 (Jvm.Cond.code my_4 method_3_code 10 (some .int) :: ws) ({ frames := 5, cells := 2, slots := 4, locals := 67 } : Room)) (fun a U => a = #[(.ref k), (.int c), (.ref pA), (.ref pB), (.long sa), (.long sb), (.int (1 : Int32)), (.int st)] ∧ Z.Warmed39 U.vm ∧ U.heap = h0) (fun _ _ _ _ _ => True) (fun _ U o U' => ∃ v L, o = .returned v ∧ QSE Z k pA mA sa pB mB sb h0 n0 v U'.heap L ∧ FrameEnd U o U' L ({ frames := 5, cells := 2, slots := 4, locals := 67 } : Room).cells ({ frames := 5, cells := 2, slots := 4, locals := 67 } : Room).slots) := by
  obtain ⟨hFB, I⟩ := I
  rcases hc with rfl | rfl | rfl | rfl
  · rcases I with ⟨rfl, hKS⟩ | ⟨rfl, hKS⟩ | ⟨rfl, hKS⟩
    · exact rs_E_0_0 l Z a0 hw ws cs aE hS k pA mA sa pB mB sb h0 n0 O0 hq hFB hKS
    · exact rs_E_A_0 l Z a0 hw ws cs aE hS k pA mA sa pB mB sb h0 n0 O0 hq hFB hKS
    · exact rs_E_B_0 l Z a0 hw ws cs aE hS k pA mA sa pB mB sb h0 n0 O0 hq hFB hKS
  · rcases I with ⟨rfl, hKS⟩ | ⟨rfl, hKS⟩ | ⟨rfl, hKS⟩
    · exact rs_E_0_1 l Z a0 hw ws cs aE hS k pA mA sa pB mB sb h0 n0 O0 hq hFB hKS
    · exact rs_E_A_1 l Z a0 hw ws cs aE hS k pA mA sa pB mB sb h0 n0 O0 hq hFB hKS
    · exact rs_E_B_1 l Z a0 hw ws cs aE hS k pA mA sa pB mB sb h0 n0 O0 hq hFB hKS
  · rcases I with ⟨rfl, hKS⟩ | ⟨rfl, hKS⟩ | ⟨rfl, hKS⟩
    · exact rs_E_0_2 l Z a0 hw ws cs aE hS k pA mA sa pB mB sb h0 n0 O0 hq hFB hKS
    · exact rs_E_A_2 l Z a0 hw ws cs aE hS k pA mA sa pB mB sb h0 n0 O0 hq hFB hKS
    · exact rs_E_B_2 l Z a0 hw ws cs aE hS k pA mA sa pB mB sb h0 n0 O0 hq hFB hKS
  · rcases I with ⟨rfl, hKS⟩ | ⟨rfl, hKS⟩ | ⟨rfl, hKS⟩
    · exact rs_E_0_3 l Z a0 hw ws cs aE hS k pA mA sa pB mB sb h0 n0 O0 hq hFB hKS
    · exact rs_E_A_3 l Z a0 hw ws cs aE hS k pA mA sa pB mB sb h0 n0 O0 hq hFB hKS
    · exact rs_E_B_3 l Z a0 hw ws cs aE hS k pA mA sa pB mB sb h0 n0 O0 hq hFB hKS
set_option maxRecDepth 65536 in
set_option maxHeartbeats 40000000 in
theorem isn_0 (l : Launch) (Z : State) (a0 : Array Value) (hw : ∀ d ∈ tables_1, d.before a0 Z = true) (ws : List Jvm.Cond) (k p : Addr) (h0 : Heap) (n0 : Nat) (KN1 : Fld Z h0 k nKnownO_3 "named" nPredec_7 .null) :
    Met l my_26 prog_22_method_13_code 1 (some .boolean) ws ({ frames := 0, cells := 0, slots := 0, locals := 0 } : Room) #[(.ref k)] Z h0 (QI (0 : Int32) h0 n0) := by
  refine MetFree.of_bodySF (plainFor_of_name pn_2) hisR ?_
  intro p e s m args below meth c s₁ Bd hml0 hP hK
  obtain ⟨rfl, hZ, hh⟩ := hP
  have hx := Bd.exec
  have hby := Bd.bytes
  have hml : c.maxLocals = 1 := hml0
  have hown : s.vm.findClass nKnownO_3 = some m.cls := findClass_of_methodNamed Bd.named
  have hnm := (name_of_methodNamed Bd.named Bd.method).1
  have X0 : Stand p l e ({ frames := 0, cells := 0, slots := 0, locals := 0 } : Room) s m #[(.ref k)] below meth c s₁ [] 0 0 := Stand.of_body Bd
  have e0 : s₁.heap = h0 := by rw [← hh, Bd.state]; rfl
  have N0 := Fr.nil n0
  obtain ⟨f₀, hf₀⟩ : ∃ f, f = entryFrame m #[(.ref k)] 1 := ⟨_, rfl⟩
  rw [← hf₀]
  have pre0 : Go p e below s₁ f₀ s₁ (mkF m 0 #[.val (.ref k)] []) := fun t kk => castTop (hf₀.trans (ef_isn_0 m (k))) kk
  obtain ⟨T1, X1, e1, st1⟩ := getF X0 hx hZ hown (host := "") (Or.inl (wq hw 128 rfl)) Via.refl e0 KN1 (g := (mkF m 1 #[.val (.ref k)] [(.ref k)])) rfl rfl (hb hby d_prog_22_method_13_1)
  obtain ⟨fs, hr, hrun, hended, hW, hsame⟩ := X1.leave (v := (some (.int (0 : Int32)))) (fun h => by rw [Bd.returns] at h; cases h)
  refine ⟨_, _, pre0 _ ?_, hrun, hended, _, _, rfl, ?_, ⟨_, rfl⟩, hW, hsame.mono (by decide) (by decide)⟩
  · refine XS.aloadN X0.here hx rfl (hb hby d_prog_22_method_13_0) rfl rfl ?_
    refine st1 _ ?_
    refine XS.ifnullYes X1.here hx rfl (pc0 := 4) (pc' := 11) rfl (hb hby d_prog_22_method_13_4) rfl (by decide) (by decide) ?_
    refine XS.iconst X1.here hx rfl (hb hby d_prog_22_method_13_11) ?_
    exact retN X1 hx (t := .boolean) Bd.returns (by simp) (hb hby d_prog_22_method_13_12) hr
  · show QI (0 : Int32) h0 n0 _ T1.heap _
    rw [e1]
    exact ⟨rfl, N0, rfl⟩
set_option maxRecDepth 65536 in
set_option maxHeartbeats 40000000 in
theorem isn_1 (l : Launch) (Z : State) (a0 : Array Value) (hw : ∀ d ∈ tables_1, d.before a0 Z = true) (ws : List Jvm.Cond) (k p : Addr) (h0 : Heap) (n0 : Nat) (KN1 : Fld Z h0 k nKnownO_3 "named" nPredec_7 (.ref p)) :
    Met l my_26 prog_22_method_13_code 1 (some .boolean) ws ({ frames := 0, cells := 0, slots := 0, locals := 0 } : Room) #[(.ref k)] Z h0 (QI (1 : Int32) h0 n0) := by
  refine MetFree.of_bodySF (plainFor_of_name pn_2) hisR ?_
  intro p e s m args below meth c s₁ Bd hml0 hP hK
  obtain ⟨rfl, hZ, hh⟩ := hP
  have hx := Bd.exec
  have hby := Bd.bytes
  have hml : c.maxLocals = 1 := hml0
  have hown : s.vm.findClass nKnownO_3 = some m.cls := findClass_of_methodNamed Bd.named
  have hnm := (name_of_methodNamed Bd.named Bd.method).1
  have X0 : Stand p l e ({ frames := 0, cells := 0, slots := 0, locals := 0 } : Room) s m #[(.ref k)] below meth c s₁ [] 0 0 := Stand.of_body Bd
  have e0 : s₁.heap = h0 := by rw [← hh, Bd.state]; rfl
  have N0 := Fr.nil n0
  obtain ⟨f₀, hf₀⟩ : ∃ f, f = entryFrame m #[(.ref k)] 1 := ⟨_, rfl⟩
  rw [← hf₀]
  have pre0 : Go p e below s₁ f₀ s₁ (mkF m 0 #[.val (.ref k)] []) := fun t kk => castTop (hf₀.trans (ef_isn_1 m (k))) kk
  obtain ⟨T1, X1, e1, st1⟩ := getF X0 hx hZ hown (host := "") (Or.inl (wq hw 128 rfl)) Via.refl e0 KN1 (g := (mkF m 1 #[.val (.ref k)] [(.ref k)])) rfl rfl (hb hby d_prog_22_method_13_1)
  obtain ⟨fs, hr, hrun, hended, hW, hsame⟩ := X1.leave (v := (some (.int (1 : Int32)))) (fun h => by rw [Bd.returns] at h; cases h)
  refine ⟨_, _, pre0 _ ?_, hrun, hended, _, _, rfl, ?_, ⟨_, rfl⟩, hW, hsame.mono (by decide) (by decide)⟩
  · refine XS.aloadN X0.here hx rfl (hb hby d_prog_22_method_13_0) rfl rfl ?_
    refine st1 _ ?_
    refine XS.ifnullNo X1.here hx rfl (hb hby d_prog_22_method_13_4) rfl ?_
    refine XS.iconst X1.here hx rfl (hb hby d_prog_22_method_13_7) ?_
    refine XS.goto X1.here hx rfl (pc0 := 8) (pc' := 12) rfl (hb hby d_prog_22_method_13_8) (by decide) (by decide) ?_
    exact retN X1 hx (t := .boolean) Bd.returns (by simp) (hb hby d_prog_22_method_13_12) hr
  · show QI (1 : Int32) h0 n0 _ T1.heap _
    rw [e1]
    exact ⟨rfl, N0, rfl⟩
theorem rm_isnN (l : Launch) (Z : State) (a0 : Array Value) (hw : ∀ d ∈ tables_1, d.before a0 Z = true) (ws : List Jvm.Cond) (k pA mA : Addr) (sa : Int64) (pB mB : Addr) (sb : Int64) (st : Int32) (h0 : Heap) (n0 : Nat) (I : InvN Z n0 h0 k pA mA sa pB mB sb st) :
    MetFree l my_26 (head1 (Jvm.Cond.code my_26 prog_22_method_13_code 1 (some .boolean) :: ws) ({ frames := 0, cells := 0, slots := 0, locals := 0 } : Room)) (fun a U => a = #[(.ref k)] ∧ Z.Warmed39 U.vm ∧ U.heap = h0) (fun _ _ _ _ _ => True) (fun _ U o U' => ∃ v L, o = .returned v ∧ QI (own_b st) h0 n0 v U'.heap L ∧ FrameEnd U o U' L ({ frames := 0, cells := 0, slots := 0, locals := 0 } : Room).cells ({ frames := 0, cells := 0, slots := 0, locals := 0 } : Room).slots) := by
  obtain ⟨-, I⟩ := I
  rcases I with ⟨rfl, ⟨q0, KN1, KN2, KN3⟩⟩ | ⟨rfl, ⟨KN1, KN2, KN3⟩⟩ | ⟨rfl, ⟨KN1, KN2, KN3⟩⟩ | ⟨rfl, ⟨L, E, ce, mc, KN1, KN2, KN3, EL, FL1, FL2, FL3, VE, OE, gL, gE⟩⟩ | ⟨rfl, ⟨L, E, ce, mc, KN1, KN2, KN3, EL, FL1, FL2, FL3, VE, OE, gL, gE⟩⟩
  · exact isn_0 l Z a0 hw ws k k h0 n0 KN1
  · exact isn_1 l Z a0 hw ws k pA h0 n0 KN1
  · exact isn_1 l Z a0 hw ws k pB h0 n0 KN1
  · exact isn_1 l Z a0 hw ws k pA h0 n0 KN1
  · exact isn_1 l Z a0 hw ws k pB h0 n0 KN1
theorem rm_isnE (l : Launch) (Z : State) (a0 : Array Value) (hw : ∀ d ∈ tables_1, d.before a0 Z = true) (ws : List Jvm.Cond) (k pA mA : Addr) (sa : Int64) (pB mB : Addr) (sb : Int64) (st : Int32) (h0 : Heap) (n0 : Nat) (I : InvE Z n0 h0 k pA mA sa pB mB sb st) :
    MetFree l my_26 (head1 (Jvm.Cond.code my_26 prog_22_method_13_code 1 (some .boolean) :: ws) ({ frames := 0, cells := 0, slots := 0, locals := 0 } : Room)) (fun a U => a = #[(.ref k)] ∧ Z.Warmed39 U.vm ∧ U.heap = h0) (fun _ _ _ _ _ => True) (fun _ U o U' => ∃ v L, o = .returned v ∧ QI (own_b st) h0 n0 v U'.heap L ∧ FrameEnd U o U' L ({ frames := 0, cells := 0, slots := 0, locals := 0 } : Room).cells ({ frames := 0, cells := 0, slots := 0, locals := 0 } : Room).slots) := by
  obtain ⟨-, I⟩ := I
  rcases I with ⟨rfl, ⟨q0, KN1, KN2, KN3⟩⟩ | ⟨rfl, ⟨KN1, KN2, KN3⟩⟩ | ⟨rfl, ⟨KN1, KN2, KN3⟩⟩
  · exact isn_0 l Z a0 hw ws k k h0 n0 KN1
  · exact isn_1 l Z a0 hw ws k pA h0 n0 KN1
  · exact isn_1 l Z a0 hw ws k pB h0 n0 KN1
theorem own_c3 (x : Int32) : (x &&& (3 : Int32)) = 0 ∨ (x &&& (3 : Int32)) = 1 ∨ (x &&& (3 : Int32)) = 2 ∨ (x &&& (3 : Int32)) = 3 := by
  have h := c_mask x 3 2 (by decide) (by decide)
  have key : ∀ k : Int32, (x &&& (3 : Int32)).toInt = k.toInt → (x &&& (3 : Int32)) = k := fun k h => Int32.toInt_inj.mp h
  have e0 : ((0 : Int32).toInt) = 0 := by decide
  have e1 : ((1 : Int32).toInt) = 1 := by decide
  have e2 : ((2 : Int32).toInt) = 2 := by decide
  have e3 : ((3 : Int32).toInt) = 3 := by decide
  by_cases h0 : (x &&& (3 : Int32)).toInt = 0
  · exact Or.inl (key _ (by omega))
  by_cases h1 : (x &&& (3 : Int32)).toInt = 1
  · exact Or.inr (Or.inl (key _ (by omega)))
  by_cases h2 : (x &&& (3 : Int32)).toInt = 2
  · exact Or.inr (Or.inr (Or.inl (key _ (by omega))))
  · exact Or.inr (Or.inr (Or.inr (key _ (by omega))))
theorem own_ch (x : Int32) : ¬ (255 : Int32) < (x &&& (255 : Int32)).toUInt32.toUInt16.toUInt32.toInt32 := by
  rw [i2c_mask, Int32.lt_iff_toInt_lt]
  have h := c_and x (255 : Int32) (by decide)
  have e : ((255 : Int32).toInt) = 255 := by decide
  omega
def Q_rc32_canEncode (Z : State) (aE : Addr) (i1 : Int32) (h0 : Heap) (n0 : Nat) (v : Option Value) (h : Heap) (L : List Loc) : Prop := v = some (.int (1 : Int32)) ∧ Fr n0 L ∧ h = h0
set_option maxRecDepth 65536 in
set_option maxHeartbeats 40000000 in
theorem rc32_canEncode (l : Launch) (Z : State) (a0 : Array Value) (hw : ∀ d ∈ tables_1, d.before a0 Z = true) (ws : List Jvm.Cond) (cs : Int32) (aE : Addr) (hS : SB Z cs aE) (i1 : Int32) (h0 : Heap) (n0 : Nat) (O0 : Old Z n0 h0) (hy0 : ¬ (255 : Int32) < i1) :
    Met l my_27 jdk_43_method_3_code 1 (some .boolean) ws ({ frames := 0, cells := 0, slots := 0, locals := 0 } : Room) #[(.int i1)] Z h0 (Q_rc32_canEncode Z aE i1 h0 n0) := by
  refine MetFree.of_bodySF (plainFor_of_name pn_9) hisR ?_
  intro p e s m args below meth c s₁ Bd hml0 hP hK
  obtain ⟨rfl, hZ, hh⟩ := hP
  have hx := Bd.exec
  have hby := Bd.bytes
  have hml : c.maxLocals = 1 := hml0
  have hown : s.vm.findClass "java/lang/StringLatin1" = some m.cls := findClass_of_methodNamed Bd.named
  have hnm := (name_of_methodNamed Bd.named Bd.method).1
  have X0 : Stand p l e ({ frames := 0, cells := 0, slots := 0, locals := 0 } : Room) s m #[(.int i1)] below meth c s₁ [] 0 0 := Stand.of_body Bd
  have e0 : s₁.heap = h0 := by rw [← hh, Bd.state]; rfl
  have N0 := Fr.nil n0
  obtain ⟨f₀, hf₀⟩ : ∃ f, f = entryFrame m #[(.int i1)] 1 := ⟨_, rfl⟩
  rw [← hf₀]
  have pre0 : Go p e below s₁ f₀ s₁ (mkF m 0 #[.val (.int i1)] []) := fun t kk => castTop (hf₀.trans (ef_rc32_canEncode m (i1))) kk
  obtain ⟨fs, hr, hrun, hended, hW, hsame⟩ := X0.leave (v := (some (.int (1 : Int32)))) (fun h => by rw [Bd.returns] at h; cases h)
  refine ⟨_, _, pre0 _ ?_, hrun, hended, _, _, rfl, ?_, ⟨_, rfl⟩, hW, hsame.mono (by decide) (by decide)⟩
  · refine XS.iloadN X0.here hx rfl (hb hby d_jdk_43_method_3_0) rfl ?_
    refine XS.sipush X0.here hx rfl (hb hby d_jdk_43_method_3_1) ?_
    refine XS.icmpNo X0.here hx rfl (hb hby d_jdk_43_method_3_4) rfl (flt hy0).2.2.1 ?_
    refine XS.iconst X0.here hx rfl (hb hby d_jdk_43_method_3_7) ?_
    refine XS.goto X0.here hx rfl (pc0 := 8) (pc' := 12) rfl (hb hby d_jdk_43_method_3_8) (by decide) (by decide) ?_
    exact retN X0 hx (t := .boolean) Bd.returns (by simp) (hb hby d_jdk_43_method_3_12) hr
  · show Q_rc32_canEncode Z aE i1 h0 n0 _ s₁.heap _
    rw [e0]
    exact ⟨rfl, N0, rfl⟩
def Q_rc33_toBytes (Z : State) (aE : Addr) (i1 : Int32) (h0 : Heap) (n0 : Nat) (v : Option Value) (h : Heap) (L : List Loc) : Prop := ∃ (b1 : Addr), ∃ (k1 : ClassId), v = some (.ref b1) ∧ Fr n0 L ∧ Keep h0 h [] ∧ h0.size ≤ b1 ∧ Arv Z h b1 k1 .byte (1 : Int32) [(.int (nar .byte (i1.toInt8.toInt32)))] (.int (0 : Int32))
set_option maxRecDepth 65536 in
set_option maxHeartbeats 40000000 in
theorem rc33_toBytes (l : Launch) (Z : State) (a0 : Array Value) (hw : ∀ d ∈ tables_1, d.before a0 Z = true) (ws : List Jvm.Cond) (cs : Int32) (aE : Addr) (hS : SB Z cs aE) (i1 : Int32) (h0 : Heap) (n0 : Nat) (O0 : Old Z n0 h0)  :
    Met l my_28 jdk_43_method_46_code 1 (some (.array .byte)) ws ({ frames := 0, cells := 1, slots := 1, locals := 0 } : Room) #[(.int i1)] Z h0 (Q_rc33_toBytes Z aE i1 h0 n0) := by
  refine MetFree.of_bodySF (plainFor_of_name pn_9) hisR ?_
  intro p e s m args below meth c s₁ Bd hml0 hP hK
  obtain ⟨rfl, hZ, hh⟩ := hP
  have hx := Bd.exec
  have hby := Bd.bytes
  have hml : c.maxLocals = 1 := hml0
  have hown : s.vm.findClass "java/lang/StringLatin1" = some m.cls := findClass_of_methodNamed Bd.named
  have hnm := (name_of_methodNamed Bd.named Bd.method).1
  have X0 : Stand p l e ({ frames := 0, cells := 1, slots := 1, locals := 0 } : Room) s m #[(.int i1)] below meth c s₁ [] 0 0 := Stand.of_body Bd
  have e0 : s₁.heap = h0 := by rw [← hh, Bd.state]; rfl
  have N0 := Fr.nil n0
  obtain ⟨f₀, hf₀⟩ : ∃ f, f = entryFrame m #[(.int i1)] 1 := ⟨_, rfl⟩
  rw [← hf₀]
  have pre0 : Go p e below s₁ f₀ s₁ (mkF m 0 #[.val (.int i1)] []) := fun t kk => castTop (hf₀.trans (ef_rc33_toBytes m (i1))) kk
  obtain ⟨T1, h1, k1, X1, e1, E1, A1, st1⟩ := newP X0 hx hZ (wq hw 14 rfl) e0 (g := (mkF m 1 #[.val (.int i1)] [(.int (1 : Int32))])) rfl (hb hby d_jdk_43_method_46_1) rfl (by decide) (cap := 1) (by decide) (by decide) (by decide) (by decide)
  obtain ⟨b1, gb1⟩ : ∃ z, z = h0.size := ⟨_, rfl⟩
  rw [← gb1] at A1 st1
  have g2 : n0 ≤ b1 := Nat.le_trans (Nat.le_of_eq O0.1.symm) (Nat.le_trans O0.2.1 (Nat.le_of_eq gb1.symm))
  have s3 : h0.size ≤ b1 := Nat.le_trans (Keep.refl h0 []).1 (Nat.le_of_eq gb1.symm)
  have O4 : Old Z n0 h1 := Old.ext O0 E1
  have K5 : Keep h0 h1 [] := (Keep.refl h0 []).ext E1
  have v6 : Arv Z h1 b1 k1 .byte (1 : Int32) [(.int (0 : Int32))] (.int (0 : Int32)) := (Arv.new A1 (by decide)).pad (pad_rep [] (.int (0 : Int32)) 1)
  obtain ⟨c7, Ar7, q7, S7, M7, Hh7, G7⟩ := (id v6)
  have hin7 : ¬ ((0 : Int32) < 0 ∨ c7.slots.size ≤ ((0 : Int32)).toNatClampNeg) := inb_of S7 ⟨by decide, by decide⟩
  obtain ⟨T8, h8, X8, e8, W8, st8⟩ := stB X1 hx hZ e1 Ar7 (j := (0 : Int32)) hin7 (g := (mkF m 7 #[.val (.int i1)] [(.int (i1.toInt8.toInt32)), (.int (0 : Int32)), (.ref b1), (.ref b1)])) rfl rfl (hb hby d_jdk_43_method_46_7)
  have v9 : Arv Z h8 b1 k1 .byte (1 : Int32) [(.int (nar .byte (i1.toInt8.toInt32)))] (.int (0 : Int32)) := Arv.set Ar7 q7 S7 M7 Hh7 G7 (fits_nar_byte _) W8 0 rfl (Nat.le_of_ble_eq_true rfl)
  have N8 := Fr.snoc X8 N0 g2
  have O10 : Old Z n0 h8 := Old.wr O4 W8 g2
  have K11 : Keep h0 h8 [] := K5.wr W8 (Or.inr s3)
  obtain ⟨fs, hr, hrun, hended, hW, hsame⟩ := X8.leave (v := (some (.ref b1))) (fun h => by rw [Bd.returns] at h; cases h)
  refine ⟨_, _, pre0 _ ?_, hrun, hended, _, _, rfl, ?_, ⟨_, rfl⟩, hW, hsame.mono (by decide) (by decide)⟩
  · refine XS.iconst X0.here hx rfl (hb hby d_jdk_43_method_46_0) ?_
    refine st1 _ ?_
    refine XS.dup X1.here hx rfl (hb hby d_jdk_43_method_46_3) rfl rfl ?_
    refine XS.iconst X1.here hx rfl (hb hby d_jdk_43_method_46_4) ?_
    refine XS.iloadN X1.here hx rfl (hb hby d_jdk_43_method_46_5) rfl ?_
    refine XS.i2b X1.here hx rfl (hb hby d_jdk_43_method_46_6) rfl ?_
    refine st8 _ ?_
    exact retOut X8 hx Bd.returns rfl (Or.inr (Or.inr (Or.inr (Or.inr ⟨rfl, rfl, rfl⟩)))) (hb hby d_jdk_43_method_46_8) hr
  · show Q_rc33_toBytes Z aE i1 h0 n0 _ T8.heap _
    rw [e8]
    exact ⟨b1, k1, rfl, N8, K11, s3, v9⟩
def Q_rc34_init (Z : State) (aE : Addr) (a1 : Addr) (a2 : Addr) (h0 : Heap) (n0 : Nat) (v : Option Value) (h : Heap) (L : List Loc) : Prop := v = none ∧ Fr n0 L ∧ Keep h0 h [a1] ∧ Exa Z h a1 nString_0 ∧ Fld Z h a1 nString_0 "coder" "B" (.int (0 : Int32)) ∧ Fld Z h a1 nString_0 "value" "[B" (.ref a2)
set_option maxRecDepth 65536 in
set_option maxHeartbeats 40000000 in
theorem rc34_init (l : Launch) (Z : State) (a0 : Array Value) (hw : ∀ d ∈ tables_1, d.before a0 Z = true) (ws : List Jvm.Cond) (cs : Int32) (aE : Addr) (hS : SB Z cs aE) (a1 : Addr) (a2 : Addr) (h0 : Heap) (n0 : Nat) (O0 : Old Z n0 h0) (g_a1 : n0 ≤ a1) (g_a2 : n0 ≤ a2) (E_a1 : Exa Z h0 a1 nString_0) (F_a1_coder : Fld Z h0 a1 nString_0 "coder" "B" (.int (0 : Int32))) (F_a1_value : Fld Z h0 a1 nString_0 "value" "[B" .null) :
    Met l my_29 jdk_42_method_151_code 3 none ws ({ frames := 1, cells := 0, slots := 0, locals := 12 } : Room) #[(.ref a1), (.ref a2), (.int (0 : Int32))] Z h0 (Q_rc34_init Z aE a1 a2 h0 n0) := by
  refine MetFree.of_bodySF (plainFor_of_name pn_10) hisR ?_
  intro p e s m args below meth c s₁ Bd hml0 hP hK
  obtain ⟨rfl, hZ, hh⟩ := hP
  have hx := Bd.exec
  have hby := Bd.bytes
  have hml : c.maxLocals = 3 := hml0
  have hown : s.vm.findClass nString_0 = some m.cls := findClass_of_methodNamed Bd.named
  have hnm := (name_of_methodNamed Bd.named Bd.method).1
  have X0 : Stand p l e ({ frames := 1, cells := 0, slots := 0, locals := 12 } : Room) s m #[(.ref a1), (.ref a2), (.int (0 : Int32))] below meth c s₁ [] 0 0 := Stand.of_body Bd
  have e0 : s₁.heap = h0 := by rw [← hh, Bd.state]; rfl
  have N0 := Fr.nil n0
  obtain ⟨f₀, hf₀⟩ : ∃ f, f = entryFrame m #[(.ref a1), (.ref a2), (.int (0 : Int32))] 3 := ⟨_, rfl⟩
  rw [← hf₀]
  have pre0 : Go p e below s₁ f₀ s₁ (mkF m 0 #[.val (.ref a1), .val (.ref a2), .val (.int (0 : Int32))] []) := fun t kk => castTop (hf₀.trans (ef_rc34_init m (a1) (a2) ((0 : Int32)))) kk
  obtain ⟨T1, X1, e1, st1⟩ := initO X0 hx hZ hown (wq hw 19 rfl) (wq hw 20 rfl) (wq hw 21 rfl) e0 (g := (mkF m 1 #[.val (.ref a1), .val (.ref a2), .val (.int (0 : Int32))] [(.ref a1)])) rfl (by rw [hml]; rfl) rfl (hb hby d_jdk_42_method_151_1) (by decide) (W := 0) (by show 2 * 0 + _ ≤ _; exact Nat.le_of_eq rfl) (by decide)
  obtain ⟨T2, h2, X2, e2, W2, st2⟩ := putF X1 hx hZ hown (host := "") (Or.inl (wq hw 22 rfl)) Via.refl e1 F_a1_value E_a1 (Or.inr ⟨(wq hw 23 rfl), rfl, hnm⟩) (wq hw 10 rfl) (ty := (.array .byte)) (by decide) rfl rfl (g := (mkF m 6 #[.val (.ref a1), .val (.ref a2), .val (.int (0 : Int32))] [(.ref a2), (.ref a1)])) rfl rfl (hb hby d_jdk_42_method_151_6)
  have f3 : Fld Z h2 a1 nString_0 "value" "[B" (.ref a2) := F_a1_value.same W2
  have N2 := Fr.snoc X2 N0 g_a1
  have O4 : Old Z n0 h2 := Old.wr O0 W2 g_a1
  have K5 : Keep h0 h2 [a1] := (Keep.refl h0 [a1]).wr W2 (Or.inl (List.mem_of_getElem? (i := 0) rfl))
  have t6 : Exa Z h2 a1 nString_0 := (E_a1.wr W2)
  have t7 : Fld Z h2 a1 nString_0 "coder" "B" (.int (0 : Int32)) := (F_a1_coder.other W2 (Or.inr (slot_ne (Or.inr (wq hw 25 rfl)) (Or.inr (wq hw 23 rfl)) (by decide) (t := .byte) (t' := (.array .byte)) (by decide) (by decide))))
  obtain ⟨T8, h8, X8, e8, W8, st8⟩ := putFN X2 hx hZ hown (wq hw 24 rfl) Via.refl e2 t7 t6 (Or.inr ⟨(wq hw 25 rfl), rfl, hnm⟩) (wq hw 10 rfl) (ty := .byte) (v' := (.int (0 : Int32))) (by decide) rfl (by decide +kernel) (g := (mkF m 11 #[.val (.ref a1), .val (.ref a2), .val (.int (0 : Int32))] [(.int (0 : Int32)), (.ref a1)])) rfl rfl (hb hby d_jdk_42_method_151_11)
  have f9 : Fld Z h8 a1 nString_0 "coder" "B" (.int (0 : Int32)) := t7.same W8
  have N8 := Fr.snoc X8 N2 g_a1
  have O10 : Old Z n0 h8 := Old.wr O4 W8 g_a1
  have K11 : Keep h0 h8 [a1] := K5.wr W8 (Or.inl (List.mem_of_getElem? (i := 0) rfl))
  have t12 : Exa Z h8 a1 nString_0 := (t6.wr W8)
  have t13 : Fld Z h8 a1 nString_0 "value" "[B" (.ref a2) := (f3.other W8 (Or.inr (slot_ne (Or.inr (wq hw 23 rfl)) (Or.inr (wq hw 25 rfl)) (by decide) (t := (.array .byte)) (t' := .byte) (by decide) (by decide))))
  obtain ⟨fs, hr, hrun, hended, hW, hsame⟩ := X8.leave (v := none) (fun _ => rfl)
  refine ⟨_, _, pre0 _ ?_, hrun, hended, _, _, rfl, ?_, ⟨_, rfl⟩, hW, hsame.mono (by decide) (by decide)⟩
  · refine XS.aloadN X0.here hx rfl (hb hby d_jdk_42_method_151_0) rfl rfl ?_
    refine st1 _ ?_
    refine XS.aloadN X1.here hx rfl (hb hby d_jdk_42_method_151_4) rfl rfl ?_
    refine XS.aloadN X1.here hx rfl (hb hby d_jdk_42_method_151_5) rfl rfl ?_
    refine st2 _ ?_
    refine XS.aloadN X2.here hx rfl (hb hby d_jdk_42_method_151_9) rfl rfl ?_
    refine XS.iloadN X2.here hx rfl (hb hby d_jdk_42_method_151_10) rfl ?_
    refine st8 _ ?_
    exact X8.returnOut hx Bd.returns (hb hby d_jdk_42_method_151_14) hr
  · show Q_rc34_init Z aE a1 a2 h0 n0 _ T8.heap _
    rw [e8]
    exact ⟨rfl, N8, K11, t12, f9, t13⟩
def Q_rc31_valueOf (Z : State) (aE : Addr) (i1 : Int32) (h0 : Heap) (n0 : Nat) (v : Option Value) (h : Heap) (L : List Loc) : Prop := ∃ (b3 : Addr), ∃ (x10_b1 : Addr), ∃ (x10_k1 : ClassId), v = some (.ref b3) ∧ Fr n0 L ∧ Keep h0 h [] ∧ h0.size ≤ b3 ∧ h0.size ≤ x10_b1 ∧ Exa Z h b3 nString_0 ∧ Fld Z h b3 nString_0 "coder" "B" (.int (0 : Int32)) ∧ Fld Z h b3 nString_0 "value" "[B" (.ref x10_b1) ∧ Arv Z h x10_b1 x10_k1 .byte (1 : Int32) [(.int (nar .byte (i1.toInt8.toInt32)))] (.int (0 : Int32))
set_option maxRecDepth 65536 in
set_option maxHeartbeats 40000000 in
theorem rc31_valueOf (l : Launch) (Z : State) (a0 : Array Value) (hw : ∀ d ∈ tables_1, d.before a0 Z = true) (ws : List Jvm.Cond) (cs : Int32) (aE : Addr) (hS : SB Z cs aE) (i1 : Int32) (h0 : Heap) (n0 : Nat) (O0 : Old Z n0 h0) (hy0 : ¬ (255 : Int32) < i1) :
    Met l my_30 jdk_42_method_139_code 1 (some (.object nString_0)) ws ({ frames := 2, cells := 2, slots := 5, locals := 27 } : Room) #[(.int i1)] Z h0 (Q_rc31_valueOf Z aE i1 h0 n0) := by
  refine MetFree.of_bodySF (plainFor_of_name pn_10) hisR ?_
  intro p e s m args below meth c s₁ Bd hml0 hP hK
  obtain ⟨rfl, hZ, hh⟩ := hP
  have hx := Bd.exec
  have hby := Bd.bytes
  have hml : c.maxLocals = 1 := hml0
  have hown : s.vm.findClass nString_0 = some m.cls := findClass_of_methodNamed Bd.named
  have hnm := (name_of_methodNamed Bd.named Bd.method).1
  have X0 : Stand p l e ({ frames := 2, cells := 2, slots := 5, locals := 27 } : Room) s m #[(.int i1)] below meth c s₁ [] 0 0 := Stand.of_body Bd
  have e0 : s₁.heap = h0 := by rw [← hh, Bd.state]; rfl
  have N0 := Fr.nil n0
  obtain ⟨f₀, hf₀⟩ : ∃ f, f = entryFrame m #[(.int i1)] 1 := ⟨_, rfl⟩
  rw [← hf₀]
  have pre0 : Go p e below s₁ f₀ s₁ (mkF m 0 #[.val (.int i1)] []) := fun t kk => castTop (hf₀.trans (ef_rc31_valueOf m (i1))) kk
  obtain ⟨T1, X1, e1, st1⟩ := getS2 X0 hx hZ hown (host := "") (Or.inl (wq hw 4 rfl)) Via.refl e0 (hS.1.ext O0.2) (g := (mkF m 0 #[.val (.int i1)] [])) rfl (hb hby d_jdk_42_method_139_0)
  obtain ⟨_, _, ⟨T2, L2, k2, n2⟩, -, X2, ⟨Lc2, hQ2, l2, y2, z2⟩, st2⟩ := Jvm.LawKit.callS X1 hx (y := my_27) hown (mvT hZ (wq hw 5 rfl)) (mvT hZ (wq hw 6 rfl)) (mvT hZ (wq hw 7 rfl)) (mvT hZ (wq hw 8 rfl)) (by decide) (backOf (W := 0) (rc32_canEncode l Z a0 hw [] cs aE hS i1 h0 n0 O0 hy0) hZ (wq hw 8 rfl) (wq hw 7 rfl) (by decide) (by decide)) (g := (mkF m 7 #[.val (.int i1)] [(.int i1)])) rfl (by rw [hml]; rfl) (argsL := [(.int i1)]) (rest := []) (lenOf pd_15 rfl) rfl (by show 2 * 0 + _ ≤ _; exact Nat.le_of_eq rfl) (hb hby d_jdk_42_method_139_7) (fun _ _ => ⟨rfl, e1, (by decide : 0 + 0 ≤ _), (by decide : 0 + 0 ≤ _)⟩)
  dsimp only [Pt.U, Pt.locs, Pt.cells, Pt.slots] at X2 l2 y2 z2 st2 hQ2
  have X2 := own_to X2 l2 y2 z2
  obtain ⟨rfl, N2q, e2⟩ := hQ2
  have N2 := Fr.app N0 N2q
  obtain ⟨T3, h3, X3, e3, E3, A3, D3, -, st3⟩ := newO X2 hx hZ hown (wq hw 9 rfl) (wq hw 10 rfl) (wq hw 2 rfl) e2 (g := (mkF m 13 #[.val (.int i1)] [])) rfl (hb hby d_jdk_42_method_139_13) (by decide) (by decide)
  obtain ⟨b3, gb3⟩ : ∃ z, z = h0.size := ⟨_, rfl⟩
  rw [← gb3] at A3 D3 st3
  have g4 : n0 ≤ b3 := Nat.le_trans (Nat.le_of_eq O0.1.symm) (Nat.le_trans O0.2.1 (Nat.le_of_eq gb3.symm))
  have s5 : h0.size ≤ b3 := Nat.le_trans (Keep.refl h0 []).1 (Nat.le_of_eq gb3.symm)
  have O6 : Old Z n0 h3 := Old.ext O0 E3
  have K7 : Keep h0 h3 [] := (Keep.refl h0 []).ext E3
  have f8 : Fld Z h3 b3 nString_0 "value" "[B" .null := D3 (Or.inr (wq hw 23 rfl)) (ty := (.array .byte)) (by decide)
  have f9 : Fld Z h3 b3 nString_0 "coder" "B" (.int (0 : Int32)) := D3 (Or.inr (wq hw 25 rfl)) (ty := .byte) (by decide)
  obtain ⟨_, _, ⟨T10, L10, k10, n10⟩, -, X10, ⟨Lc10, hQ10, l10, y10, z10⟩, st10⟩ := Jvm.LawKit.callS X3 hx (y := my_28) hown (mvT hZ (wq hw 11 rfl)) (mvT hZ (wq hw 12 rfl)) (mvT hZ (wq hw 7 rfl)) (mvT hZ (wq hw 13 rfl)) (by decide) (backOf (W := 2) (rc33_toBytes l Z a0 hw [] cs aE hS i1 h3 n0 O6 ) hZ (wq hw 13 rfl) (wq hw 7 rfl) (by decide) (by decide)) (g := (mkF m 18 #[.val (.int i1)] [(.int i1), (.ref b3), (.ref b3)])) rfl (by rw [hml]; rfl) (argsL := [(.int i1)]) (rest := [(.ref b3), (.ref b3)]) (lenOf pd_16 rfl) rfl (by show 2 * 0 + _ ≤ _; exact Nat.le_of_eq rfl) (hb hby d_jdk_42_method_139_18) (fun _ _ => ⟨rfl, e3, (by decide : 1 + 1 ≤ _), (by decide : 4 + 1 ≤ _)⟩)
  dsimp only [Pt.U, Pt.locs, Pt.cells, Pt.slots] at X10 l10 y10 z10 st10 hQ10
  have X10 := own_to X10 l10 y10 z10
  obtain ⟨x10_b1, x10_k1, rfl, N10q, K10, sz10_b1, q10_0⟩ := hQ10
  have N10 := Fr.app N2 N10q
  have g11 : n0 ≤ x10_b1 := Nat.le_trans (Nat.le_of_eq O6.1.symm) (Nat.le_trans O6.2.1 sz10_b1)
  have s12 : h0.size ≤ x10_b1 := Nat.le_trans K7.1 sz10_b1
  have ne13 : b3 ≠ x10_b1 := Nat.ne_of_lt (Nat.lt_of_lt_of_le A3.lt sz10_b1)
  have O14 : Old Z n0 T10.heap := Old.keep O6 K10 all0
  have K15 : Keep h0 T10.heap [] := K7.trans K10 all0
  have t16 : Exa Z T10.heap b3 nString_0 := (A3.keep K10)
  have t17 : Fld Z T10.heap b3 nString_0 "coder" "B" (.int (0 : Int32)) := (f9.keep K10 nin0)
  have t18 : Fld Z T10.heap b3 nString_0 "value" "[B" .null := (f8.keep K10 nin0)
  obtain ⟨_, _, ⟨T19, L19, k19, n19⟩, -, X19, ⟨Lc19, hQ19, l19, y19, z19⟩, st19⟩ := X10.specialBack hx (y := my_29) rfl hown (mvT hZ (wq hw 15 rfl)) (mvT hZ (wq hw 16 rfl)) (mvT hZ (wq hw 18 rfl)) (by decide) (backOf (W := 1) (rc34_init l Z a0 hw [] cs aE hS b3 x10_b1 T10.heap n0 O14 g4 g11 t16 t17 t18) hZ (wq hw 18 rfl) (wq hw 2 rfl) (by decide) (by decide)) (g := (mkF m 22 #[.val (.int i1)] [(.int (0 : Int32)), (.ref x10_b1), (.ref b3), (.ref b3)])) rfl (by rw [hml]; rfl) (Steps.refl _) (a := b3) (argsL := [(.ref x10_b1), (.int (0 : Int32))]) (rest := [(.ref b3)]) (lenOf pd_17 rfl) rfl (by show 2 * 0 + _ ≤ _; exact Nat.le_of_eq rfl) (hb hby d_jdk_42_method_139_22) (fun _ _ => ⟨rfl, rfl, (by decide : 2 + 0 ≤ _), (by decide : 5 + 0 ≤ _)⟩)
  dsimp only [Pt.U, Pt.locs, Pt.cells, Pt.slots] at X19 l19 y19 z19 st19 hQ19
  have X19 := own_to X19 l19 y19 z19
  obtain ⟨rfl, N19q, K19, q19_0, q19_1, q19_2⟩ := hQ19
  have N19 := Fr.app N10 N19q
  have O20 : Old Z n0 T19.heap := Old.keep O14 K19 (allS g4 all0)
  have K21 : Keep h0 T19.heap [] := K15.trans K19 (allS (Or.inr s5) all0)
  have t22 : Arv Z T19.heap x10_b1 x10_k1 .byte (1 : Int32) [(.int (nar .byte (i1.toInt8.toInt32)))] (.int (0 : Int32)) := (q10_0.keep K19 (ninS (Ne.symm ne13) nin0))
  obtain ⟨fs, hr, hrun, hended, hW, hsame⟩ := X19.leave (v := (some (.ref b3))) (fun h => by rw [Bd.returns] at h; cases h)
  refine ⟨_, _, pre0 _ ?_, hrun, hended, _, _, rfl, ?_, ⟨_, rfl⟩, hW, hsame.mono (by decide) (by decide)⟩
  · refine st1 _ ?_
    refine XS.ifNo X1.here hx rfl (hb hby d_jdk_42_method_139_3) rfl ((if0 _ _).trans (feq hS.2.1).1) ?_
    refine XS.iloadN X1.here hx rfl (hb hby d_jdk_42_method_139_6) rfl ?_
    refine st2 _ ?_
    refine XS.ifNo X2.here hx rfl (hb hby d_jdk_42_method_139_10) rfl ((if0 _ _).trans (feq (by decide : ¬ ((1 : Int32) = (0 : Int32)))).1) ?_
    refine st3 _ ?_
    refine XS.dup X3.here hx rfl (hb hby d_jdk_42_method_139_16) rfl rfl ?_
    refine XS.iloadN X3.here hx rfl (hb hby d_jdk_42_method_139_17) rfl ?_
    refine st10 _ ?_
    refine XS.iconst X10.here hx rfl (hb hby d_jdk_42_method_139_21) ?_
    refine st19.trans ?_
    exact retOut X19 hx Bd.returns rfl (Or.inr (Or.inr (Or.inr (Or.inr ⟨rfl, rfl, rfl⟩)))) (hb hby d_jdk_42_method_139_25) hr
  · show Q_rc31_valueOf Z aE i1 h0 n0 _ T19.heap _
    exact ⟨b3, x10_b1, x10_k1, rfl, N19, K21, s5, s12, q19_0, q19_1, q19_2, t22⟩
def Q_rc37_init (Z : State) (aE : Addr) (a1 : Addr) (h0 : Heap) (n0 : Nat) (v : Option Value) (h : Heap) (L : List Loc) : Prop := v = none ∧ Fr n0 L ∧ h = h0
set_option maxRecDepth 65536 in
set_option maxHeartbeats 40000000 in
theorem rc37_init (l : Launch) (Z : State) (a0 : Array Value) (hw : ∀ d ∈ tables_1, d.before a0 Z = true) (ws : List Jvm.Cond) (cs : Int32) (aE : Addr) (hS : SB Z cs aE) (a1 : Addr) (h0 : Heap) (n0 : Nat) (O0 : Old Z n0 h0) (g_a1 : n0 ≤ a1) :
    Met l my_31 jdk_71_method_1_code 1 none ws ({ frames := 1, cells := 0, slots := 0, locals := 12 } : Room) #[(.ref a1)] Z h0 (Q_rc37_init Z aE a1 h0 n0) := by
  refine MetFree.of_bodySF (plainFor_of_name pn_11) hisR ?_
  intro p e s m args below meth c s₁ Bd hml0 hP hK
  obtain ⟨rfl, hZ, hh⟩ := hP
  have hx := Bd.exec
  have hby := Bd.bytes
  have hml : c.maxLocals = 1 := hml0
  have hown : s.vm.findClass "java/util/AbstractMap" = some m.cls := findClass_of_methodNamed Bd.named
  have hnm := (name_of_methodNamed Bd.named Bd.method).1
  have X0 : Stand p l e ({ frames := 1, cells := 0, slots := 0, locals := 12 } : Room) s m #[(.ref a1)] below meth c s₁ [] 0 0 := Stand.of_body Bd
  have e0 : s₁.heap = h0 := by rw [← hh, Bd.state]; rfl
  have N0 := Fr.nil n0
  obtain ⟨f₀, hf₀⟩ : ∃ f, f = entryFrame m #[(.ref a1)] 1 := ⟨_, rfl⟩
  rw [← hf₀]
  have pre0 : Go p e below s₁ f₀ s₁ (mkF m 0 #[.val (.ref a1)] []) := fun t kk => castTop (hf₀.trans (ef_rc37_init m (a1))) kk
  obtain ⟨T1, X1, e1, st1⟩ := initO X0 hx hZ hown (wq hw 50 rfl) (wq hw 20 rfl) (wq hw 21 rfl) e0 (g := (mkF m 1 #[.val (.ref a1)] [(.ref a1)])) rfl (by rw [hml]; rfl) rfl (hb hby d_jdk_71_method_1_1) (by decide) (W := 0) (by show 2 * 0 + _ ≤ _; exact Nat.le_of_eq rfl) (by decide)
  obtain ⟨fs, hr, hrun, hended, hW, hsame⟩ := X1.leave (v := none) (fun _ => rfl)
  refine ⟨_, _, pre0 _ ?_, hrun, hended, _, _, rfl, ?_, ⟨_, rfl⟩, hW, hsame.mono (by decide) (by decide)⟩
  · refine XS.aloadN X0.here hx rfl (hb hby d_jdk_71_method_1_0) rfl rfl ?_
    refine st1 _ ?_
    exact X1.returnOut hx Bd.returns (hb hby d_jdk_71_method_1_4) hr
  · show Q_rc37_init Z aE a1 h0 n0 _ T1.heap _
    rw [e1]
    exact ⟨rfl, N0, rfl⟩
def Q_rc36_init (Z : State) (aE : Addr) (a1 : Addr) (h0 : Heap) (n0 : Nat) (v : Option Value) (h : Heap) (L : List Loc) : Prop := v = none ∧ Fr n0 L ∧ Keep h0 h [a1] ∧ Exa Z h a1 nTreeMa_14 ∧ Fld Z h a1 nTreeMa_14 "comparator" "Ljava/util/Comparator;" .null ∧ Fld Z h a1 nTreeMa_14 "modCount" "I" (.int (0 : Int32)) ∧ Fld Z h a1 nTreeMa_14 "size" "I" (.int (0 : Int32))
set_option maxRecDepth 65536 in
set_option maxHeartbeats 40000000 in
theorem rc36_init (l : Launch) (Z : State) (a0 : Array Value) (hw : ∀ d ∈ tables_1, d.before a0 Z = true) (ws : List Jvm.Cond) (cs : Int32) (aE : Addr) (hS : SB Z cs aE) (a1 : Addr) (h0 : Heap) (n0 : Nat) (O0 : Old Z n0 h0) (g_a1 : n0 ≤ a1) (E_a1 : Exa Z h0 a1 nTreeMa_14) (F_a1_comparator : Fld Z h0 a1 nTreeMa_14 "comparator" "Ljava/util/Comparator;" .null) (F_a1_modCount : Fld Z h0 a1 nTreeMa_14 "modCount" "I" (.int (0 : Int32))) (F_a1_size : Fld Z h0 a1 nTreeMa_14 "size" "I" (.int (0 : Int32))) :
    Met l my_32 jdk_2729_method_1_code 1 none ws ({ frames := 2, cells := 0, slots := 0, locals := 24 } : Room) #[(.ref a1)] Z h0 (Q_rc36_init Z aE a1 h0 n0) := by
  refine MetFree.of_bodySF (plainFor_of_name pn_12) hisR ?_
  intro p e s m args below meth c s₁ Bd hml0 hP hK
  obtain ⟨rfl, hZ, hh⟩ := hP
  have hx := Bd.exec
  have hby := Bd.bytes
  have hml : c.maxLocals = 1 := hml0
  have hown : s.vm.findClass nTreeMa_14 = some m.cls := findClass_of_methodNamed Bd.named
  have hnm := (name_of_methodNamed Bd.named Bd.method).1
  have X0 : Stand p l e ({ frames := 2, cells := 0, slots := 0, locals := 24 } : Room) s m #[(.ref a1)] below meth c s₁ [] 0 0 := Stand.of_body Bd
  have e0 : s₁.heap = h0 := by rw [← hh, Bd.state]; rfl
  have N0 := Fr.nil n0
  obtain ⟨f₀, hf₀⟩ : ∃ f, f = entryFrame m #[(.ref a1)] 1 := ⟨_, rfl⟩
  rw [← hf₀]
  have pre0 : Go p e below s₁ f₀ s₁ (mkF m 0 #[.val (.ref a1)] []) := fun t kk => castTop (hf₀.trans (ef_rc36_init m (a1))) kk
  obtain ⟨_, _, ⟨T1, L1, k1, n1⟩, -, X1, ⟨Lc1, hQ1, l1, y1, z1⟩, st1⟩ := X0.specialBack hx (y := my_31) rfl hown (mvT hZ (wq hw 44 rfl)) (mvT hZ (wq hw 45 rfl)) (mvT hZ (wq hw 49 rfl)) (by decide) (backOf (W := 0) (rc37_init l Z a0 hw [] cs aE hS a1 h0 n0 O0 g_a1) hZ (wq hw 49 rfl) (wq hw 48 rfl) (by decide) (by decide)) (g := (mkF m 1 #[.val (.ref a1)] [(.ref a1)])) rfl (by rw [hml]; rfl) (Steps.refl _) (a := a1) (argsL := []) (rest := []) (lenOf pd_4 rfl) rfl (by show 2 * 0 + _ ≤ _; exact Nat.le_of_eq rfl) (hb hby d_jdk_2729_method_1_1) (fun _ _ => ⟨rfl, e0, (by decide : 0 + 0 ≤ _), (by decide : 0 + 0 ≤ _)⟩)
  dsimp only [Pt.U, Pt.locs, Pt.cells, Pt.slots] at X1 l1 y1 z1 st1 hQ1
  have X1 := own_to X1 l1 y1 z1
  obtain ⟨rfl, N1q, e1⟩ := hQ1
  have N1 := Fr.app N0 N1q
  obtain ⟨T2, h2, X2, e2, W2, st2⟩ := putF X1 hx hZ hown (host := "") (Or.inl (wq hw 51 rfl)) Via.refl e1 F_a1_size E_a1 (Or.inl (wq hw 52 rfl)) (wq hw 39 rfl) (ty := .int) (by decide) rfl rfl (g := (mkF m 6 #[.val (.ref a1)] [(.int (0 : Int32)), (.ref a1)])) rfl rfl (hb hby d_jdk_2729_method_1_6)
  have f3 : Fld Z h2 a1 nTreeMa_14 "size" "I" (.int (0 : Int32)) := F_a1_size.same W2
  have N2 := Fr.snoc X2 N1 g_a1
  have O4 : Old Z n0 h2 := Old.wr O0 W2 g_a1
  have K5 : Keep h0 h2 [a1] := (Keep.refl h0 [a1]).wr W2 (Or.inl (List.mem_of_getElem? (i := 0) rfl))
  have t6 : Exa Z h2 a1 nTreeMa_14 := (E_a1.wr W2)
  have t7 : Fld Z h2 a1 nTreeMa_14 "modCount" "I" (.int (0 : Int32)) := (F_a1_modCount.other W2 (Or.inr (slot_ne (Or.inl (wq hw 54 rfl)) (Or.inl (wq hw 52 rfl)) (by decide) (t := .int) (t' := .int) (by decide) (by decide))))
  obtain ⟨T8, h8, X8, e8, W8, st8⟩ := putF X2 hx hZ hown (host := "") (Or.inl (wq hw 53 rfl)) Via.refl e2 t7 t6 (Or.inl (wq hw 54 rfl)) (wq hw 39 rfl) (ty := .int) (by decide) rfl rfl (g := (mkF m 11 #[.val (.ref a1)] [(.int (0 : Int32)), (.ref a1)])) rfl rfl (hb hby d_jdk_2729_method_1_11)
  have f9 : Fld Z h8 a1 nTreeMa_14 "modCount" "I" (.int (0 : Int32)) := t7.same W8
  have N8 := Fr.snoc X8 N2 g_a1
  have O10 : Old Z n0 h8 := Old.wr O4 W8 g_a1
  have K11 : Keep h0 h8 [a1] := K5.wr W8 (Or.inl (List.mem_of_getElem? (i := 0) rfl))
  have t12 : Exa Z h8 a1 nTreeMa_14 := (t6.wr W8)
  have t13 : Fld Z h8 a1 nTreeMa_14 "comparator" "Ljava/util/Comparator;" .null := ((F_a1_comparator.other W2 (Or.inr (slot_ne (Or.inr (wq hw 56 rfl)) (Or.inl (wq hw 52 rfl)) (by decide) (t := (.object "java/util/Comparator")) (t' := .int) (by decide) (by decide)))).other W8 (Or.inr (slot_ne (Or.inr (wq hw 56 rfl)) (Or.inl (wq hw 54 rfl)) (by decide) (t := (.object "java/util/Comparator")) (t' := .int) (by decide) (by decide))))
  obtain ⟨T14, h14, X14, e14, W14, st14⟩ := putF X8 hx hZ hown (host := "") (Or.inl (wq hw 55 rfl)) Via.refl e8 t13 t12 (Or.inr ⟨(wq hw 56 rfl), rfl, hnm⟩) (wq hw 39 rfl) (ty := (.object "java/util/Comparator")) (by decide) rfl rfl (g := (mkF m 16 #[.val (.ref a1)] [.null, (.ref a1)])) rfl rfl (hb hby d_jdk_2729_method_1_16)
  have f15 : Fld Z h14 a1 nTreeMa_14 "comparator" "Ljava/util/Comparator;" .null := t13.same W14
  have N14 := Fr.snoc X14 N8 g_a1
  have O16 : Old Z n0 h14 := Old.wr O10 W14 g_a1
  have K17 : Keep h0 h14 [a1] := K11.wr W14 (Or.inl (List.mem_of_getElem? (i := 0) rfl))
  have t18 : Exa Z h14 a1 nTreeMa_14 := (t12.wr W14)
  have t19 : Fld Z h14 a1 nTreeMa_14 "modCount" "I" (.int (0 : Int32)) := (f9.other W14 (Or.inr (slot_ne (Or.inl (wq hw 54 rfl)) (Or.inr (wq hw 56 rfl)) (by decide) (t := .int) (t' := (.object "java/util/Comparator")) (by decide) (by decide))))
  have t20 : Fld Z h14 a1 nTreeMa_14 "size" "I" (.int (0 : Int32)) := ((f3.other W8 (Or.inr (slot_ne (Or.inl (wq hw 52 rfl)) (Or.inl (wq hw 54 rfl)) (by decide) (t := .int) (t' := .int) (by decide) (by decide)))).other W14 (Or.inr (slot_ne (Or.inl (wq hw 52 rfl)) (Or.inr (wq hw 56 rfl)) (by decide) (t := .int) (t' := (.object "java/util/Comparator")) (by decide) (by decide))))
  obtain ⟨fs, hr, hrun, hended, hW, hsame⟩ := X14.leave (v := none) (fun _ => rfl)
  refine ⟨_, _, pre0 _ ?_, hrun, hended, _, _, rfl, ?_, ⟨_, rfl⟩, hW, hsame.mono (by decide) (by decide)⟩
  · refine XS.aloadN X0.here hx rfl (hb hby d_jdk_2729_method_1_0) rfl rfl ?_
    refine st1.trans ?_
    refine XS.aloadN X1.here hx rfl (hb hby d_jdk_2729_method_1_4) rfl rfl ?_
    refine XS.iconst X1.here hx rfl (hb hby d_jdk_2729_method_1_5) ?_
    refine st2 _ ?_
    refine XS.aloadN X2.here hx rfl (hb hby d_jdk_2729_method_1_9) rfl rfl ?_
    refine XS.iconst X2.here hx rfl (hb hby d_jdk_2729_method_1_10) ?_
    refine st8 _ ?_
    refine XS.aloadN X8.here hx rfl (hb hby d_jdk_2729_method_1_14) rfl rfl ?_
    refine XS.aconstNull X8.here hx rfl (hb hby d_jdk_2729_method_1_15) ?_
    refine st14 _ ?_
    exact X14.returnOut hx Bd.returns (hb hby d_jdk_2729_method_1_19) hr
  · show Q_rc36_init Z aE a1 h0 n0 _ T14.heap _
    rw [e14]
    exact ⟨rfl, N14, K17, t18, f15, t19, t20⟩
def Q_rc35_init (Z : State) (aE : Addr) (a1 : Addr) (a2 : Addr) (a3 : Addr) (cid4 : ClassId) (i5 : Int32) (h0 : Heap) (n0 : Nat) (v : Option Value) (h : Heap) (L : List Loc) : Prop := ∃ (b2 : Addr), v = none ∧ Fr n0 L ∧ Keep h0 h [a1] ∧ h0.size ≤ b2 ∧ Exa Z h a1 nKnownO_3 ∧ Fld Z h a1 nKnownO_3 "alsoNamed" nList_8 .null ∧ Fld Z h a1 nKnownO_3 "identifier" "Ljava/lang/String;" (.ref a2) ∧ Fld Z h a1 nKnownO_3 "named" nPredec_7 .null ∧ Fld Z h a1 nKnownO_3 "namedSeq" "J" (.long (0 : Int64)) ∧ Fld Z h a1 nKnownO_3 "runs" "Ljava/util/NavigableMap;" (.ref b2) ∧ Exa Z h b2 nTreeMa_14 ∧ Fld Z h b2 nTreeMa_14 "comparator" "Ljava/util/Comparator;" .null ∧ Fld Z h b2 nTreeMa_14 "modCount" "I" (.int (0 : Int32)) ∧ Fld Z h b2 nTreeMa_14 "size" "I" (.int (0 : Int32))
set_option maxRecDepth 65536 in
set_option maxHeartbeats 40000000 in
theorem rc35_init (l : Launch) (Z : State) (a0 : Array Value) (hw : ∀ d ∈ tables_1, d.before a0 Z = true) (ws : List Jvm.Cond) (cs : Int32) (aE : Addr) (hS : SB Z cs aE) (a1 : Addr) (a2 : Addr) (a3 : Addr) (cid4 : ClassId) (i5 : Int32) (h0 : Heap) (n0 : Nat) (O0 : Old Z n0 h0) (g_a2 : n0 ≤ a2) (g_a3 : n0 ≤ a3) (g_a1 : n0 ≤ a1) (E_a1 : Exa Z h0 a1 nKnownO_3) (F_a1_alsoNamed : Fld Z h0 a1 nKnownO_3 "alsoNamed" nList_8 .null) (F_a1_identifier : Fld Z h0 a1 nKnownO_3 "identifier" "Ljava/lang/String;" .null) (F_a1_named : Fld Z h0 a1 nKnownO_3 "named" nPredec_7 .null) (F_a1_namedSeq : Fld Z h0 a1 nKnownO_3 "namedSeq" "J" (.long (0 : Int64))) (F_a1_runs : Fld Z h0 a1 nKnownO_3 "runs" "Ljava/util/NavigableMap;" .null) (E_a2 : Exa Z h0 a2 nString_0) (V_a3 : Arv Z h0 a3 cid4 .byte (1 : Int32) [(.int i5)] (.int (0 : Int32))) :
    Met l my_33 prog_22_method_1_code 2 none ws ({ frames := 3, cells := 1, slots := 9, locals := 38 } : Room) #[(.ref a1), (.ref a2)] Z h0 (Q_rc35_init Z aE a1 a2 a3 cid4 i5 h0 n0) := by
  refine MetFree.of_bodySF (plainFor_of_name pn_2) hisR ?_
  intro p e s m args below meth c s₁ Bd hml0 hP hK
  obtain ⟨rfl, hZ, hh⟩ := hP
  have hx := Bd.exec
  have hby := Bd.bytes
  have hml : c.maxLocals = 2 := hml0
  have hown : s.vm.findClass nKnownO_3 = some m.cls := findClass_of_methodNamed Bd.named
  have hnm := (name_of_methodNamed Bd.named Bd.method).1
  have X0 : Stand p l e ({ frames := 3, cells := 1, slots := 9, locals := 38 } : Room) s m #[(.ref a1), (.ref a2)] below meth c s₁ [] 0 0 := Stand.of_body Bd
  have e0 : s₁.heap = h0 := by rw [← hh, Bd.state]; rfl
  have N0 := Fr.nil n0
  obtain ⟨f₀, hf₀⟩ : ∃ f, f = entryFrame m #[(.ref a1), (.ref a2)] 2 := ⟨_, rfl⟩
  rw [← hf₀]
  have pre0 : Go p e below s₁ f₀ s₁ (mkF m 0 #[.val (.ref a1), .val (.ref a2)] []) := fun t kk => castTop (hf₀.trans (ef_rc35_init m (a1) (a2))) kk
  obtain ⟨T1, X1, e1, st1⟩ := initO X0 hx hZ hown (wq hw 37 rfl) (wq hw 20 rfl) (wq hw 21 rfl) e0 (g := (mkF m 1 #[.val (.ref a1), .val (.ref a2)] [(.ref a1)])) rfl (by rw [hml]; rfl) rfl (hb hby d_prog_22_method_1_1) (by decide) (W := 0) (by show 2 * 0 + _ ≤ _; exact Nat.le_of_eq rfl) (by decide)
  obtain ⟨T2, h2, X2, e2, E2, A2, D2, -, st2⟩ := newO X1 hx hZ hown (wq hw 38 rfl) (wq hw 39 rfl) (wq hw 40 rfl) e1 (g := (mkF m 5 #[.val (.ref a1), .val (.ref a2)] [(.ref a1)])) rfl (hb hby d_prog_22_method_1_5) (by decide) (by decide)
  obtain ⟨b2, gb2⟩ : ∃ z, z = h0.size := ⟨_, rfl⟩
  rw [← gb2] at A2 D2 st2
  have ne3 : a1 ≠ b2 := Nat.ne_of_lt (Nat.lt_of_lt_of_le E_a1.lt (Nat.le_of_eq gb2.symm))
  have ne4 : a2 ≠ b2 := Nat.ne_of_lt (Nat.lt_of_lt_of_le E_a2.lt (Nat.le_of_eq gb2.symm))
  have ne5 : a3 ≠ b2 := Nat.ne_of_lt (Nat.lt_of_lt_of_le V_a3.lt (Nat.le_of_eq gb2.symm))
  have g6 : n0 ≤ b2 := Nat.le_trans (Nat.le_of_eq O0.1.symm) (Nat.le_trans O0.2.1 (Nat.le_of_eq gb2.symm))
  have s7 : h0.size ≤ b2 := Nat.le_trans (Keep.refl h0 [a1]).1 (Nat.le_of_eq gb2.symm)
  have O8 : Old Z n0 h2 := Old.ext O0 E2
  have K9 : Keep h0 h2 [a1] := (Keep.refl h0 [a1]).ext E2
  have f10 : Fld Z h2 b2 nTreeMa_14 "size" "I" (.int (0 : Int32)) := D2 (Or.inl (wq hw 52 rfl)) (ty := .int) (by decide)
  have f11 : Fld Z h2 b2 nTreeMa_14 "modCount" "I" (.int (0 : Int32)) := D2 (Or.inl (wq hw 54 rfl)) (ty := .int) (by decide)
  have f12 : Fld Z h2 b2 nTreeMa_14 "comparator" "Ljava/util/Comparator;" .null := D2 (Or.inr (wq hw 56 rfl)) (ty := (.object "java/util/Comparator")) (by decide)
  obtain ⟨_, _, ⟨T13, L13, k13, n13⟩, -, X13, ⟨Lc13, hQ13, l13, y13, z13⟩, st13⟩ := X2.specialBack hx (y := my_32) rfl hown (mvT hZ (wq hw 41 rfl)) (mvT hZ (wq hw 42 rfl)) (mvT hZ (wq hw 43 rfl)) (by decide) (backOf (W := 2) (rc36_init l Z a0 hw [] cs aE hS b2 h2 n0 O8 g6 A2 f12 f11 f10) hZ (wq hw 43 rfl) (wq hw 40 rfl) (by decide) (by decide)) (g := (mkF m 9 #[.val (.ref a1), .val (.ref a2)] [(.ref b2), (.ref b2), (.ref a1)])) rfl (by rw [hml]; rfl) (Steps.refl _) (a := b2) (argsL := []) (rest := [(.ref b2), (.ref a1)]) (lenOf pd_4 rfl) rfl (by show 2 * 0 + _ ≤ _; exact Nat.le_of_eq rfl) (hb hby d_prog_22_method_1_9) (fun _ _ => ⟨rfl, e2, (by decide : 1 + 0 ≤ _), (by decide : 9 + 0 ≤ _)⟩)
  dsimp only [Pt.U, Pt.locs, Pt.cells, Pt.slots] at X13 l13 y13 z13 st13 hQ13
  have X13 := own_to X13 l13 y13 z13
  obtain ⟨rfl, N13q, K13, q13_0, q13_1, q13_2, q13_3⟩ := hQ13
  have N13 := Fr.app N0 N13q
  have O14 : Old Z n0 T13.heap := Old.keep O8 K13 (allS g6 all0)
  have K15 : Keep h0 T13.heap [a1] := K9.trans K13 (allS (Or.inr s7) all0)
  have t16 : Exa Z T13.heap a1 nKnownO_3 := ((E_a1.ext E2).keep K13)
  have t17 : Fld Z T13.heap a1 nKnownO_3 "runs" "Ljava/util/NavigableMap;" .null := ((F_a1_runs.ext E2).keep K13 (ninS ne3 nin0))
  obtain ⟨T18, h18, X18, e18, W18, st18⟩ := putF X13 hx hZ hown (host := "") (Or.inl (wq hw 57 rfl)) Via.refl rfl t17 t16 (Or.inr ⟨(wq hw 58 rfl), rfl, hnm⟩) (wq hw 32 rfl) (ty := (.object "java/util/NavigableMap")) (by decide) rfl rfl (g := (mkF m 12 #[.val (.ref a1), .val (.ref a2)] [(.ref b2), (.ref a1)])) rfl rfl (hb hby d_prog_22_method_1_12)
  have f19 : Fld Z h18 a1 nKnownO_3 "runs" "Ljava/util/NavigableMap;" (.ref b2) := t17.same W18
  have N18 := Fr.snoc X18 N13 g_a1
  have O20 : Old Z n0 h18 := Old.wr O14 W18 g_a1
  have K21 : Keep h0 h18 [a1] := K15.wr W18 (Or.inl (List.mem_of_getElem? (i := 0) rfl))
  have t22 : Exa Z h18 a1 nKnownO_3 := (t16.wr W18)
  have t23 : Fld Z h18 a1 nKnownO_3 "identifier" "Ljava/lang/String;" .null := (((F_a1_identifier.ext E2).keep K13 (ninS ne3 nin0)).other W18 (Or.inr (slot_ne (Or.inr (wq hw 60 rfl)) (Or.inr (wq hw 58 rfl)) (by decide) (t := (.object nString_0)) (t' := (.object "java/util/NavigableMap")) (by decide) (by decide))))
  obtain ⟨T24, h24, X24, e24, W24, st24⟩ := putF X18 hx hZ hown (host := "") (Or.inl (wq hw 59 rfl)) Via.refl e18 t23 t22 (Or.inr ⟨(wq hw 60 rfl), rfl, hnm⟩) (wq hw 32 rfl) (ty := (.object nString_0)) (by decide) rfl rfl (g := (mkF m 17 #[.val (.ref a1), .val (.ref a2)] [(.ref a2), (.ref a1)])) rfl rfl (hb hby d_prog_22_method_1_17)
  have f25 : Fld Z h24 a1 nKnownO_3 "identifier" "Ljava/lang/String;" (.ref a2) := t23.same W24
  have N24 := Fr.snoc X24 N18 g_a1
  have O26 : Old Z n0 h24 := Old.wr O20 W24 g_a1
  have K27 : Keep h0 h24 [a1] := K21.wr W24 (Or.inl (List.mem_of_getElem? (i := 0) rfl))
  have t28 : Exa Z h24 a1 nKnownO_3 := (t22.wr W24)
  have t29 : Fld Z h24 a1 nKnownO_3 "alsoNamed" nList_8 .null := ((((F_a1_alsoNamed.ext E2).keep K13 (ninS ne3 nin0)).other W18 (Or.inr (slot_ne (Or.inl (wq hw 157 rfl)) (Or.inr (wq hw 58 rfl)) (by decide) (t := (.object "java/util/List")) (t' := (.object "java/util/NavigableMap")) (by decide) (by decide)))).other W24 (Or.inr (slot_ne (Or.inl (wq hw 157 rfl)) (Or.inr (wq hw 60 rfl)) (by decide) (t := (.object "java/util/List")) (t' := (.object nString_0)) (by decide) (by decide))))
  have t30 : Fld Z h24 a1 nKnownO_3 "named" nPredec_7 .null := ((((F_a1_named.ext E2).keep K13 (ninS ne3 nin0)).other W18 (Or.inr (slot_ne (Or.inl (wq hw 129 rfl)) (Or.inr (wq hw 58 rfl)) (by decide) (t := (.object nPredec_4)) (t' := (.object "java/util/NavigableMap")) (by decide) (by decide)))).other W24 (Or.inr (slot_ne (Or.inl (wq hw 129 rfl)) (Or.inr (wq hw 60 rfl)) (by decide) (t := (.object nPredec_4)) (t' := (.object nString_0)) (by decide) (by decide))))
  have t31 : Fld Z h24 a1 nKnownO_3 "namedSeq" "J" (.long (0 : Int64)) := ((((F_a1_namedSeq.ext E2).keep K13 (ninS ne3 nin0)).other W18 (Or.inr (slot_ne (Or.inl (wq hw 155 rfl)) (Or.inr (wq hw 58 rfl)) (by decide) (t := .long) (t' := (.object "java/util/NavigableMap")) (by decide) (by decide)))).other W24 (Or.inr (slot_ne (Or.inl (wq hw 155 rfl)) (Or.inr (wq hw 60 rfl)) (by decide) (t := .long) (t' := (.object nString_0)) (by decide) (by decide))))
  have t32 : Fld Z h24 a1 nKnownO_3 "runs" "Ljava/util/NavigableMap;" (.ref b2) := (f19.other W24 (Or.inr (slot_ne (Or.inr (wq hw 58 rfl)) (Or.inr (wq hw 60 rfl)) (by decide) (t := (.object "java/util/NavigableMap")) (t' := (.object nString_0)) (by decide) (by decide))))
  have t33 : Exa Z h24 b2 nTreeMa_14 := ((q13_0.wr W18).wr W24)
  have t34 : Fld Z h24 b2 nTreeMa_14 "comparator" "Ljava/util/Comparator;" .null := ((q13_1.other W18 (Or.inl (Ne.symm ne3))).other W24 (Or.inl (Ne.symm ne3)))
  have t35 : Fld Z h24 b2 nTreeMa_14 "modCount" "I" (.int (0 : Int32)) := ((q13_2.other W18 (Or.inl (Ne.symm ne3))).other W24 (Or.inl (Ne.symm ne3)))
  have t36 : Fld Z h24 b2 nTreeMa_14 "size" "I" (.int (0 : Int32)) := ((q13_3.other W18 (Or.inl (Ne.symm ne3))).other W24 (Or.inl (Ne.symm ne3)))
  obtain ⟨fs, hr, hrun, hended, hW, hsame⟩ := X24.leave (v := none) (fun _ => rfl)
  refine ⟨_, _, pre0 _ ?_, hrun, hended, _, _, rfl, ?_, ⟨_, rfl⟩, hW, hsame.mono (by decide) (by decide)⟩
  · refine XS.aloadN X0.here hx rfl (hb hby d_prog_22_method_1_0) rfl rfl ?_
    refine st1 _ ?_
    refine XS.aloadN X1.here hx rfl (hb hby d_prog_22_method_1_4) rfl rfl ?_
    refine st2 _ ?_
    refine XS.dup X2.here hx rfl (hb hby d_prog_22_method_1_8) rfl rfl ?_
    refine st13.trans ?_
    refine st18 _ ?_
    refine XS.aloadN X18.here hx rfl (hb hby d_prog_22_method_1_15) rfl rfl ?_
    refine XS.aloadN X18.here hx rfl (hb hby d_prog_22_method_1_16) rfl rfl ?_
    refine st24 _ ?_
    exact X24.returnOut hx Bd.returns (hb hby d_prog_22_method_1_20) hr
  · show Q_rc35_init Z aE a1 a2 a3 cid4 i5 h0 n0 _ T24.heap _
    rw [e24]
    exact ⟨b2, rfl, N24, K27, s7, t28, t29, f25, t30, t31, t32, t33, t34, t35, t36⟩
def Q_rc39_init (Z : State) (aE : Addr) (a1 : Addr) (h0 : Heap) (n0 : Nat) (v : Option Value) (h : Heap) (L : List Loc) : Prop := v = none ∧ Fr n0 L ∧ h = h0
set_option maxRecDepth 65536 in
set_option maxHeartbeats 40000000 in
theorem rc39_init (l : Launch) (Z : State) (a0 : Array Value) (hw : ∀ d ∈ tables_1, d.before a0 Z = true) (ws : List Jvm.Cond) (cs : Int32) (aE : Addr) (hS : SB Z cs aE) (a1 : Addr) (h0 : Heap) (n0 : Nat) (O0 : Old Z n0 h0) (g_a1 : n0 ≤ a1) :
    Met l my_34 jdk_30_method_1_code 1 none ws ({ frames := 1, cells := 0, slots := 0, locals := 12 } : Room) #[(.ref a1)] Z h0 (Q_rc39_init Z aE a1 h0 n0) := by
  refine MetFree.of_bodySF (plainFor_of_name pn_13) hisR ?_
  intro p e s m args below meth c s₁ Bd hml0 hP hK
  obtain ⟨rfl, hZ, hh⟩ := hP
  have hx := Bd.exec
  have hby := Bd.bytes
  have hml : c.maxLocals = 1 := hml0
  have hown : s.vm.findClass "java/lang/Record" = some m.cls := findClass_of_methodNamed Bd.named
  have hnm := (name_of_methodNamed Bd.named Bd.method).1
  have X0 : Stand p l e ({ frames := 1, cells := 0, slots := 0, locals := 12 } : Room) s m #[(.ref a1)] below meth c s₁ [] 0 0 := Stand.of_body Bd
  have e0 : s₁.heap = h0 := by rw [← hh, Bd.state]; rfl
  have N0 := Fr.nil n0
  obtain ⟨f₀, hf₀⟩ : ∃ f, f = entryFrame m #[(.ref a1)] 1 := ⟨_, rfl⟩
  rw [← hf₀]
  have pre0 : Go p e below s₁ f₀ s₁ (mkF m 0 #[.val (.ref a1)] []) := fun t kk => castTop (hf₀.trans (ef_rc39_init m (a1))) kk
  obtain ⟨T1, X1, e1, st1⟩ := initO X0 hx hZ hown (wq hw 75 rfl) (wq hw 20 rfl) (wq hw 21 rfl) e0 (g := (mkF m 1 #[.val (.ref a1)] [(.ref a1)])) rfl (by rw [hml]; rfl) rfl (hb hby d_jdk_30_method_1_1) (by decide) (W := 0) (by show 2 * 0 + _ ≤ _; exact Nat.le_of_eq rfl) (by decide)
  obtain ⟨fs, hr, hrun, hended, hW, hsame⟩ := X1.leave (v := none) (fun _ => rfl)
  refine ⟨_, _, pre0 _ ?_, hrun, hended, _, _, rfl, ?_, ⟨_, rfl⟩, hW, hsame.mono (by decide) (by decide)⟩
  · refine XS.aloadN X0.here hx rfl (hb hby d_jdk_30_method_1_0) rfl rfl ?_
    refine st1 _ ?_
    exact X1.returnOut hx Bd.returns (hb hby d_jdk_30_method_1_4) hr
  · show Q_rc39_init Z aE a1 h0 n0 _ T1.heap _
    rw [e1]
    exact ⟨rfl, N0, rfl⟩
def Q_rc40_requireNonNull (Z : State) (aE : Addr) (a1 : Addr) (a2 : Addr) (h0 : Heap) (n0 : Nat) (v : Option Value) (h : Heap) (L : List Loc) : Prop := v = some (.ref a1) ∧ Fr n0 L ∧ h = h0
set_option maxRecDepth 65536 in
set_option maxHeartbeats 40000000 in
theorem rc40_requireNonNull (l : Launch) (Z : State) (a0 : Array Value) (hw : ∀ d ∈ tables_1, d.before a0 Z = true) (ws : List Jvm.Cond) (cs : Int32) (aE : Addr) (hS : SB Z cs aE) (a1 : Addr) (a2 : Addr) (h0 : Heap) (n0 : Nat) (O0 : Old Z n0 h0) (g_a1 : n0 ≤ a1) :
    Met l my_35 jdk_31_method_11_code 2 (some (.object nObject_12)) ws ({ frames := 0, cells := 0, slots := 0, locals := 0 } : Room) #[(.ref a1), (.ref a2)] Z h0 (Q_rc40_requireNonNull Z aE a1 a2 h0 n0) := by
  refine MetFree.of_bodySF (plainFor_of_name pn_8) hisR ?_
  intro p e s m args below meth c s₁ Bd hml0 hP hK
  obtain ⟨rfl, hZ, hh⟩ := hP
  have hx := Bd.exec
  have hby := Bd.bytes
  have hml : c.maxLocals = 2 := hml0
  have hown : s.vm.findClass "java/util/Objects" = some m.cls := findClass_of_methodNamed Bd.named
  have hnm := (name_of_methodNamed Bd.named Bd.method).1
  have X0 : Stand p l e ({ frames := 0, cells := 0, slots := 0, locals := 0 } : Room) s m #[(.ref a1), (.ref a2)] below meth c s₁ [] 0 0 := Stand.of_body Bd
  have e0 : s₁.heap = h0 := by rw [← hh, Bd.state]; rfl
  have N0 := Fr.nil n0
  obtain ⟨f₀, hf₀⟩ : ∃ f, f = entryFrame m #[(.ref a1), (.ref a2)] 2 := ⟨_, rfl⟩
  rw [← hf₀]
  have pre0 : Go p e below s₁ f₀ s₁ (mkF m 0 #[.val (.ref a1), .val (.ref a2)] []) := fun t kk => castTop (hf₀.trans (ef_rc40_requireNonNull m (a1) (a2))) kk
  obtain ⟨fs, hr, hrun, hended, hW, hsame⟩ := X0.leave (v := (some (.ref a1))) (fun h => by rw [Bd.returns] at h; cases h)
  refine ⟨_, _, pre0 _ ?_, hrun, hended, _, _, rfl, ?_, ⟨_, rfl⟩, hW, hsame.mono (by decide) (by decide)⟩
  · refine XS.aloadN X0.here hx rfl (hb hby d_jdk_31_method_11_0) rfl rfl ?_
    refine XS.ifnonnullYes X0.here hx rfl (pc0 := 1) (pc' := 13) rfl (hb hby d_jdk_31_method_11_1) rfl (by decide) (by decide) ?_
    refine XS.aloadN X0.here hx rfl (hb hby d_jdk_31_method_11_13) rfl rfl ?_
    exact retOut X0 hx Bd.returns rfl (Or.inr (Or.inr (Or.inr (Or.inr ⟨rfl, rfl, rfl⟩)))) (hb hby d_jdk_31_method_11_14) hr
  · show Q_rc40_requireNonNull Z aE a1 a2 h0 n0 _ s₁.heap _
    rw [e0]
    exact ⟨rfl, N0, rfl⟩
def Q_rc42_isEmpty (Z : State) (aE : Addr) (a1 : Addr) (a2 : Addr) (cid3 : ClassId) (i4 : Int32) (h0 : Heap) (n0 : Nat) (v : Option Value) (h : Heap) (L : List Loc) : Prop := v = some (.int (0 : Int32)) ∧ Fr n0 L ∧ h = h0
set_option maxRecDepth 65536 in
set_option maxHeartbeats 40000000 in
theorem rc42_isEmpty (l : Launch) (Z : State) (a0 : Array Value) (hw : ∀ d ∈ tables_1, d.before a0 Z = true) (ws : List Jvm.Cond) (cs : Int32) (aE : Addr) (hS : SB Z cs aE) (a1 : Addr) (a2 : Addr) (cid3 : ClassId) (i4 : Int32) (h0 : Heap) (n0 : Nat) (O0 : Old Z n0 h0) (g_a1 : n0 ≤ a1) (g_a2 : n0 ≤ a2) (F_a1_value : Fld Z h0 a1 nString_0 "value" "[B" (.ref a2)) (V_a2 : Arv Z h0 a2 cid3 .byte (1 : Int32) [(.int i4)] (.int (0 : Int32))) :
    Met l my_36 jdk_42_method_55_code 1 (some .boolean) ws ({ frames := 0, cells := 0, slots := 0, locals := 0 } : Room) #[(.ref a1)] Z h0 (Q_rc42_isEmpty Z aE a1 a2 cid3 i4 h0 n0) := by
  refine MetFree.of_bodySF (plainFor_of_name pn_10) hisR ?_
  intro p e s m args below meth c s₁ Bd hml0 hP hK
  obtain ⟨rfl, hZ, hh⟩ := hP
  have hx := Bd.exec
  have hby := Bd.bytes
  have hml : c.maxLocals = 1 := hml0
  have hown : s.vm.findClass nString_0 = some m.cls := findClass_of_methodNamed Bd.named
  have hnm := (name_of_methodNamed Bd.named Bd.method).1
  have X0 : Stand p l e ({ frames := 0, cells := 0, slots := 0, locals := 0 } : Room) s m #[(.ref a1)] below meth c s₁ [] 0 0 := Stand.of_body Bd
  have e0 : s₁.heap = h0 := by rw [← hh, Bd.state]; rfl
  have N0 := Fr.nil n0
  obtain ⟨f₀, hf₀⟩ : ∃ f, f = entryFrame m #[(.ref a1)] 1 := ⟨_, rfl⟩
  rw [← hf₀]
  have pre0 : Go p e below s₁ f₀ s₁ (mkF m 0 #[.val (.ref a1)] []) := fun t kk => castTop (hf₀.trans (ef_rc42_isEmpty m (a1))) kk
  obtain ⟨T1, X1, e1, st1⟩ := getF X0 hx hZ hown (host := "") (Or.inl (wq hw 22 rfl)) Via.refl e0 F_a1_value (g := (mkF m 1 #[.val (.ref a1)] [(.ref a1)])) rfl rfl (hb hby d_jdk_42_method_55_1)
  obtain ⟨c2, Ar2, q2, S2, M2, Hh2, G2⟩ := (id V_a2)
  obtain ⟨fs, hr, hrun, hended, hW, hsame⟩ := X1.leave (v := (some (.int (0 : Int32)))) (fun h => by rw [Bd.returns] at h; cases h)
  refine ⟨_, _, pre0 _ ?_, hrun, hended, _, _, rfl, ?_, ⟨_, rfl⟩, hW, hsame.mono (by decide) (by decide)⟩
  · refine XS.aloadN X0.here hx rfl (hb hby d_jdk_42_method_55_0) rfl rfl ?_
    refine st1 _ ?_
    refine X1.arraylength hx (by rw [e1]; exact Ar2.1) (State.isArrayOf_alike hZ.alike Ar2.2.1) (g := (mkF m 4 #[.val (.ref a1)] [(.ref a2)])) rfl rfl (hb hby d_jdk_42_method_55_4) _ ?_
    rw [len_of S2 M2]
    refine XS.ifYes X1.here hx rfl (pc0 := 5) (pc' := 12) rfl (hb hby d_jdk_42_method_55_5) rfl ((if0 _ _).trans (feq (by decide : ¬ ((1 : Int32) = (0 : Int32)))).2) (by decide) (by decide) ?_
    refine XS.iconst X1.here hx rfl (hb hby d_jdk_42_method_55_12) ?_
    exact retN X1 hx (t := .boolean) Bd.returns (by simp) (hb hby d_jdk_42_method_55_13) hr
  · show Q_rc42_isEmpty Z aE a1 a2 cid3 i4 h0 n0 _ T1.heap _
    rw [e1]
    exact ⟨rfl, N0, rfl⟩
def Q_rc41_checkNotEmpty (Z : State) (aE : Addr) (a1 : Addr) (a2 : Addr) (a3 : Addr) (cid4 : ClassId) (i5 : Int32) (h0 : Heap) (n0 : Nat) (v : Option Value) (h : Heap) (L : List Loc) : Prop := v = none ∧ Fr n0 L ∧ h = h0
set_option maxRecDepth 65536 in
set_option maxHeartbeats 40000000 in
theorem rc41_checkNotEmpty (l : Launch) (Z : State) (a0 : Array Value) (hw : ∀ d ∈ tables_1, d.before a0 Z = true) (ws : List Jvm.Cond) (cs : Int32) (aE : Addr) (hS : SB Z cs aE) (a1 : Addr) (a2 : Addr) (a3 : Addr) (cid4 : ClassId) (i5 : Int32) (h0 : Heap) (n0 : Nat) (O0 : Old Z n0 h0) (g_a1 : n0 ≤ a1) (g_a3 : n0 ≤ a3) (E_a1 : Exa Z h0 a1 nString_0) (F_a1_value : Fld Z h0 a1 nString_0 "value" "[B" (.ref a3)) (V_a3 : Arv Z h0 a3 cid4 .byte (1 : Int32) [(.int i5)] (.int (0 : Int32))) :
    Met l my_37 prog_27_method_3_code 2 none ws ({ frames := 1, cells := 0, slots := 0, locals := 12 } : Room) #[(.ref a1), (.ref a2)] Z h0 (Q_rc41_checkNotEmpty Z aE a1 a2 a3 cid4 i5 h0 n0) := by
  refine MetFree.of_bodySF (plainFor_of_name pn_14) hisR ?_
  intro p e s m args below meth c s₁ Bd hml0 hP hK
  obtain ⟨rfl, hZ, hh⟩ := hP
  have hx := Bd.exec
  have hby := Bd.bytes
  have hml : c.maxLocals = 2 := hml0
  have hown : s.vm.findClass "com/example/causal_delivery/causaldelivery/MemberIdentifier" = some m.cls := findClass_of_methodNamed Bd.named
  have hnm := (name_of_methodNamed Bd.named Bd.method).1
  have X0 : Stand p l e ({ frames := 1, cells := 0, slots := 0, locals := 12 } : Room) s m #[(.ref a1), (.ref a2)] below meth c s₁ [] 0 0 := Stand.of_body Bd
  have e0 : s₁.heap = h0 := by rw [← hh, Bd.state]; rfl
  have N0 := Fr.nil n0
  obtain ⟨f₀, hf₀⟩ : ∃ f, f = entryFrame m #[(.ref a1), (.ref a2)] 2 := ⟨_, rfl⟩
  rw [← hf₀]
  have pre0 : Go p e below s₁ f₀ s₁ (mkF m 0 #[.val (.ref a1), .val (.ref a2)] []) := fun t kk => castTop (hf₀.trans (ef_rc41_checkNotEmpty m (a1) (a2))) kk
  obtain ⟨cq1, kq1, q1a, q1b, q1c⟩ := isOf hZ e0 (E_a1)
  obtain ⟨_, _, ⟨T1, L1, k1, n1⟩, -, X1, ⟨Lc1, hQ1, l1, y1, z1⟩, st1⟩ := X0.virtualBack hx (y := my_36) (z := my_36) hown (mvT hZ (wq hw 88 rfl)) (mvT hZ (wq hw 89 rfl)) (notFace_of_selects (args := #[]) (mvT hZ (wq hw 91 rfl))) (mvT hZ (wq hw 91 rfl)) (mvT hZ (wq hw 90 rfl)) (by decide) (backOf (W := 0) (rc42_isEmpty l Z a0 hw [] cs aE hS a1 a3 cid4 i5 h0 n0 O0 g_a1 g_a3 F_a1_value V_a3) hZ (wq hw 92 rfl) (wq hw 2 rfl) (by decide) (by decide)) q1a q1c (g := (mkF m 1 #[.val (.ref a1), .val (.ref a2)] [(.ref a1)])) rfl (by rw [hml]; rfl) (Steps.refl _) (argsL := []) (rest := []) (lenOf pd_14 rfl) rfl (by show 2 * 0 + _ ≤ _; exact Nat.le_of_eq rfl) (hb hby d_prog_27_method_3_1) (fun _ _ => ⟨rfl, e0, (by decide : 0 + 0 ≤ _), (by decide : 0 + 0 ≤ _)⟩)
  dsimp only [Pt.U, Pt.locs, Pt.cells, Pt.slots] at X1 l1 y1 z1 st1 hQ1
  have X1 := own_to X1 l1 y1 z1
  obtain ⟨rfl, N1q, e1⟩ := hQ1
  have N1 := Fr.app N0 N1q
  obtain ⟨fs, hr, hrun, hended, hW, hsame⟩ := X1.leave (v := none) (fun _ => rfl)
  refine ⟨_, _, pre0 _ ?_, hrun, hended, _, _, rfl, ?_, ⟨_, rfl⟩, hW, hsame.mono (by decide) (by decide)⟩
  · refine XS.aloadN X0.here hx rfl (hb hby d_prog_27_method_3_0) rfl rfl ?_
    refine st1.trans ?_
    refine XS.ifYes X1.here hx rfl (pc0 := 4) (pc' := 15) rfl (hb hby d_prog_27_method_3_4) rfl ((if0 _ _).trans (teq (by decide : (0 : Int32) = (0 : Int32))).1) (by decide) (by decide) ?_
    exact X1.returnOut hx Bd.returns (hb hby d_prog_27_method_3_15) hr
  · show Q_rc41_checkNotEmpty Z aE a1 a2 a3 cid4 i5 h0 n0 _ T1.heap _
    rw [e1]
    exact ⟨rfl, N1, rfl⟩
def Q_rc38_init (Z : State) (aE : Addr) (a1 : Addr) (a2 : Addr) (j3 : Int64) (a4 : Addr) (cid5 : ClassId) (i6 : Int32) (h0 : Heap) (n0 : Nat) (v : Option Value) (h : Heap) (L : List Loc) : Prop := v = none ∧ Fr n0 L ∧ Keep h0 h [a1] ∧ Exa Z h a1 nMessag_6 ∧ Fld Z h a1 nMessag_6 "origin" "Ljava/lang/String;" (.ref a2) ∧ Fld Z h a1 nMessag_6 "seq" "J" (.long j3)
set_option maxRecDepth 65536 in
set_option maxHeartbeats 40000000 in
theorem rc38_init (l : Launch) (Z : State) (a0 : Array Value) (hw : ∀ d ∈ tables_1, d.before a0 Z = true) (ws : List Jvm.Cond) (cs : Int32) (aE : Addr) (hS : SB Z cs aE) (a1 : Addr) (a2 : Addr) (j3 : Int64) (a4 : Addr) (cid5 : ClassId) (i6 : Int32) (h0 : Heap) (n0 : Nat) (O0 : Old Z n0 h0) (g_a2 : n0 ≤ a2) (g_a4 : n0 ≤ a4) (g_a1 : n0 ≤ a1) (E_a1 : Exa Z h0 a1 nMessag_6) (F_a1_origin : Fld Z h0 a1 nMessag_6 "origin" "Ljava/lang/String;" .null) (F_a1_seq : Fld Z h0 a1 nMessag_6 "seq" "J" (.long (0 : Int64))) (E_a2 : Exa Z h0 a2 nString_0) (F_a2_value : Fld Z h0 a2 nString_0 "value" "[B" (.ref a4)) (V_a4 : Arv Z h0 a4 cid5 .byte (1 : Int32) [(.int i6)] (.int (0 : Int32))) (hy0 : ¬ j3 < (1 : Int64)) :
    MetW l my_38 prog_29_method_1_code 4 none ws ({ frames := 2, cells := 4, slots := 104, locals := 25 } : Room) #[(.ref a1), (.ref a2), (.long j3)] Z h0 (Q_rc38_init Z aE a1 a2 j3 a4 cid5 i6 h0 n0) := by
  refine MetFree.of_bodySF (plainFor_of_name pn_1) hisR ?_
  intro p e s m args below meth c s₁ Bd hml0 hP hK
  obtain ⟨rfl, hZ, hh⟩ := hP
  have hx := Bd.exec
  have hby := Bd.bytes
  have hml : c.maxLocals = 4 := hml0
  have hown : s.vm.findClass nMessag_6 = some m.cls := findClass_of_methodNamed Bd.named
  have hnm := (name_of_methodNamed Bd.named Bd.method).1
  have X0 : Stand p l e ({ frames := 2, cells := 4, slots := 104, locals := 25 } : Room) (s.setVm s.vm) m #[(.ref a1), (.ref a2), (.long j3)] below meth c s₁ [] 0 0 := Stand.of_body Bd
  have e0 : s₁.heap = h0 := by rw [← hh, Bd.state]; rfl
  have N0 := Fr.nil n0
  obtain ⟨f₀, hf₀⟩ : ∃ f, f = entryFrame m #[(.ref a1), (.ref a2), (.long j3)] 4 := ⟨_, rfl⟩
  rw [← hf₀]
  have pre0 : Go p e below s₁ f₀ s₁ (mkF m 0 #[.val (.ref a1), .val (.ref a2), .val (.long j3), .second] []) := fun t kk => castTop (hf₀.trans (ef_rc38_init m (a1) (a2) (j3))) kk
  have hZ0 : Z.Warmed39 (s.setVm s.vm).vm := hZ
  have hown0 : (s.setVm s.vm).vm.findClass nMessag_6 = some m.cls := hown
  have hS0 : s.Since s.vm s.heap.size := (State.WarmedH.refl s).since _
  have hk0 : s.heap.size ≤ h0.size := by rw [hh]; exact Nat.le_refl _
  obtain ⟨_, _, ⟨T1, L1, k1, n1⟩, -, X1, ⟨Lc1, hQ1, l1, y1, z1⟩, st1⟩ := X0.specialBack hx (y := my_34) rfl hown0 (mvT hZ0 (wq hw 70 rfl)) (mvT hZ0 (wq hw 71 rfl)) (mvT hZ0 (wq hw 74 rfl)) (by decide) (backOf (W := 0) (rc39_init l Z a0 hw [] cs aE hS a1 h0 n0 O0 g_a1) hZ0 (wq hw 74 rfl) (wq hw 73 rfl) (by decide) (by decide)) (g := (mkF m 1 #[.val (.ref a1), .val (.ref a2), .val (.long j3), .second] [(.ref a1)])) rfl (by rw [hml]; rfl) (Steps.refl _) (a := a1) (argsL := []) (rest := []) (lenOf pd_4 rfl) rfl (by show 2 * 0 + _ ≤ _; exact Nat.le_of_eq rfl) (hb hby d_prog_29_method_1_1) (fun _ _ => ⟨rfl, e0, (by decide : 0 + 0 ≤ _), (by decide : 0 + 0 ≤ _)⟩)
  dsimp only [Pt.U, Pt.locs, Pt.cells, Pt.slots] at X1 l1 y1 z1 st1 hQ1
  have X1 := own_to X1 l1 y1 z1
  obtain ⟨rfl, N1q, e1⟩ := hQ1
  have N1 := Fr.app N0 N1q
  obtain ⟨sa2, T2, h2, k2, X2, e2, E2, hS2, hk2, hZ2, hown2, st2⟩ := ldcS X1 hx hZ0 hown0 (wq hw 76 rfl) (own_wS hw) e1 hS0 hk0 (g := (mkF m 5 #[.val (.ref a1), .val (.ref a2), .val (.long j3), .second] [(.ref a2)])) rfl (hb hby d_prog_29_method_1_5) (n := 24) (by decide) (by decide) (by decide) (by decide)
  have O3 : Old Z n0 h2 := Old.ext O0 E2
  have K4 : Keep h0 h2 [a1] := (Keep.refl h0 [a1]).ext E2
  have hk5 := Nat.le_trans hk0 E2.1
  obtain ⟨_, _, ⟨T6, L6, k6, n6⟩, -, X6, ⟨Lc6, hQ6, l6, y6, z6⟩, st6⟩ := Jvm.LawKit.callS X2 hx (y := my_35) hown2 (mvT hZ2 (wq hw 79 rfl)) (mvT hZ2 (wq hw 80 rfl)) (mvT hZ2 (wq hw 81 rfl)) (mvT hZ2 (wq hw 82 rfl)) (by decide) (backOf (W := 0) (rc40_requireNonNull l Z a0 hw [] cs aE hS a2 sa2 h2 n0 O3 g_a2) hZ2 (wq hw 82 rfl) (wq hw 81 rfl) (by decide) (by decide)) (g := (mkF m 7 #[.val (.ref a1), .val (.ref a2), .val (.long j3), .second] [(.ref sa2), (.ref a2)])) rfl (by rw [hml]; rfl) (argsL := [(.ref a2), (.ref sa2)]) (rest := []) (lenOf pd_21 rfl) rfl (by show 2 * 0 + _ ≤ _; exact Nat.le_of_eq rfl) (hb hby d_prog_29_method_1_7) (fun _ _ => ⟨rfl, e2, (by decide : 2 + 0 ≤ _), (by decide : 28 + 0 ≤ _)⟩)
  dsimp only [Pt.U, Pt.locs, Pt.cells, Pt.slots] at X6 l6 y6 z6 st6 hQ6
  have X6 := own_to X6 l6 y6 z6
  obtain ⟨rfl, N6q, e6⟩ := hQ6
  have N6 := Fr.app N1 N6q
  obtain ⟨sa7, T7, h7, k7, X7, e7, E7, hS7, hk7, hZ7, hown7, st7⟩ := ldcS X6 hx hZ2 hown2 (wq hw 83 rfl) (own_wS hw) e6 hS2 hk2 (g := (mkF m 12 #[.val (.ref a1), .val (.ref a2), .val (.long j3), .second] [(.ref a2)])) rfl (hb hby d_prog_29_method_1_12) (n := 72) (by decide) (by decide) (by decide) (by decide)
  have O8 : Old Z n0 h7 := Old.ext O3 E7
  have K9 : Keep h0 h7 [a1] := K4.ext E7
  have hk10 := Nat.le_trans hk2 E7.1
  have t11 : Exa Z h7 a2 nString_0 := ((E_a2.ext E2).ext E7)
  have t12 : Fld Z h7 a2 nString_0 "value" "[B" (.ref a4) := ((F_a2_value.ext E2).ext E7)
  have t13 : Arv Z h7 a4 cid5 .byte (1 : Int32) [(.int i6)] (.int (0 : Int32)) := ((V_a4.ext E2).ext E7)
  obtain ⟨_, _, ⟨T14, L14, k14, n14⟩, -, X14, ⟨Lc14, hQ14, l14, y14, z14⟩, st14⟩ := Jvm.LawKit.callS X7 hx (y := my_37) hown7 (mvT hZ7 (wq hw 84 rfl)) (mvT hZ7 (wq hw 85 rfl)) (mvT hZ7 (wq hw 86 rfl)) (mvT hZ7 (wq hw 87 rfl)) (by decide) (backOf (W := 0) (rc41_checkNotEmpty l Z a0 hw [] cs aE hS a2 sa7 a4 cid5 i6 h7 n0 O8 g_a2 g_a4 t11 t12 t13) hZ7 (wq hw 87 rfl) (wq hw 86 rfl) (by decide) (by decide)) (g := (mkF m 14 #[.val (.ref a1), .val (.ref a2), .val (.long j3), .second] [(.ref sa7), (.ref a2)])) rfl (by rw [hml]; rfl) (argsL := [(.ref a2), (.ref sa7)]) (rest := []) (lenOf pd_22 rfl) rfl (by show 2 * 0 + _ ≤ _; exact Nat.le_of_eq rfl) (hb hby d_prog_29_method_1_14) (fun _ _ => ⟨rfl, e7, (by decide : 4 + 0 ≤ _), (by decide : 104 + 0 ≤ _)⟩)
  dsimp only [Pt.U, Pt.locs, Pt.cells, Pt.slots] at X14 l14 y14 z14 st14 hQ14
  have X14 := own_to X14 l14 y14 z14
  obtain ⟨rfl, N14q, e14⟩ := hQ14
  have N14 := Fr.app N6 N14q
  have t15 : Exa Z h7 a1 nMessag_6 := ((E_a1.ext E2).ext E7)
  have t16 : Fld Z h7 a1 nMessag_6 "origin" "Ljava/lang/String;" .null := ((F_a1_origin.ext E2).ext E7)
  obtain ⟨T17, h17, X17, e17, W17, st17⟩ := putF X14 hx hZ7 hown7 (host := "") (Or.inl (wq hw 93 rfl)) Via.refl e14 t16 t15 (Or.inr ⟨(wq hw 94 rfl), rfl, hnm⟩) (wq hw 65 rfl) (ty := (.object nString_0)) (by decide) rfl rfl (g := (mkF m 39 #[.val (.ref a1), .val (.ref a2), .val (.long j3), .second] [(.ref a2), (.ref a1)])) rfl rfl (hb hby d_prog_29_method_1_39)
  have f18 : Fld Z h17 a1 nMessag_6 "origin" "Ljava/lang/String;" (.ref a2) := t16.same W17
  have N17 := Fr.snoc X17 N14 g_a1
  have O19 : Old Z n0 h17 := Old.wr O8 W17 g_a1
  have K20 : Keep h0 h17 [a1] := K9.wr W17 (Or.inl (List.mem_of_getElem? (i := 0) rfl))
  have hk21 := Nat.le_trans hk7 (Keep.of_wr W17).1
  have t22 : Exa Z h17 a1 nMessag_6 := (t15.wr W17)
  have t23 : Fld Z h17 a1 nMessag_6 "seq" "J" (.long (0 : Int64)) := (((F_a1_seq.ext E2).ext E7).other W17 (Or.inr (slot_ne (Or.inr (wq hw 96 rfl)) (Or.inr (wq hw 94 rfl)) (by decide) (t := .long) (t' := (.object nString_0)) (by decide) (by decide))))
  obtain ⟨T24, h24, X24, e24, W24, st24⟩ := putF X17 hx hZ7 hown7 (host := "") (Or.inl (wq hw 95 rfl)) Via.refl e17 t23 t22 (Or.inr ⟨(wq hw 96 rfl), rfl, hnm⟩) (wq hw 65 rfl) (ty := .long) (by decide) rfl rfl (g := (mkF m 44 #[.val (.ref a1), .val (.ref a2), .val (.long j3), .second] [(.long j3), (.ref a1)])) rfl rfl (hb hby d_prog_29_method_1_44)
  have f25 : Fld Z h24 a1 nMessag_6 "seq" "J" (.long j3) := t23.same W24
  have N24 := Fr.snoc X24 N17 g_a1
  have O26 : Old Z n0 h24 := Old.wr O19 W24 g_a1
  have K27 : Keep h0 h24 [a1] := K20.wr W24 (Or.inl (List.mem_of_getElem? (i := 0) rfl))
  have hk28 := Nat.le_trans hk21 (Keep.of_wr W24).1
  have t29 : Exa Z h24 a1 nMessag_6 := (t22.wr W24)
  have t30 : Fld Z h24 a1 nMessag_6 "origin" "Ljava/lang/String;" (.ref a2) := (f18.other W24 (Or.inr (slot_ne (Or.inr (wq hw 94 rfl)) (Or.inr (wq hw 96 rfl)) (by decide) (t := (.object nString_0)) (t' := .long) (by decide) (by decide))))
  obtain ⟨fs, hr, hrun, hended, hEW⟩ := Jvm.Stand.leaveW X24 hS7 (by rw [e24]; exact hk28) (v := none) (fun _ => rfl)
  refine ⟨_, _, pre0 _ ?_, hrun, hended, _, _, rfl, ?_, ⟨_, rfl⟩, hEW.2.1, hEW.2.2.1, hEW.2.2.2.mono (by decide) (by decide)⟩
  · refine XS.aloadN X0.here hx rfl (hb hby d_prog_29_method_1_0) rfl rfl ?_
    refine st1.trans ?_
    refine XS.aloadN X1.here hx rfl (hb hby d_prog_29_method_1_4) rfl rfl ?_
    refine st2 _ ?_
    refine st6 _ ?_
    refine XS.pop X6.here hx rfl (hb hby d_prog_29_method_1_10) rfl rfl ?_
    refine XS.aloadN X6.here hx rfl (hb hby d_prog_29_method_1_11) rfl rfl ?_
    refine st7 _ ?_
    refine st14 _ ?_
    refine XS.lloadN X14.here hx rfl (hb hby d_prog_29_method_1_17) rfl ?_
    refine XS.lconst X14.here hx rfl (hb hby d_prog_29_method_1_18) ?_
    refine XS.lcmp X14.here hx rfl (hb hby d_prog_29_method_1_19) rfl ?_
    refine XS.ifYes X14.here hx rfl (pc0 := 20) (pc' := 37) rfl (hb hby d_prog_29_method_1_20) rfl ((if0 _ _).trans (flt (fun q => hy0 ((lw_lt _ _).mp q))).2.1) (by decide) (by decide) ?_
    refine XS.aloadN X14.here hx rfl (hb hby d_prog_29_method_1_37) rfl rfl ?_
    refine XS.aloadN X14.here hx rfl (hb hby d_prog_29_method_1_38) rfl rfl ?_
    refine st17 _ ?_
    refine XS.aloadN X17.here hx rfl (hb hby d_prog_29_method_1_42) rfl rfl ?_
    refine XS.lloadN X17.here hx rfl (hb hby d_prog_29_method_1_43) rfl ?_
    refine st24 _ ?_
    exact X24.returnOut hx Bd.returns (hb hby d_prog_29_method_1_47) hr
  · show Q_rc38_init Z aE a1 a2 j3 a4 cid5 i6 h0 n0 _ T24.heap _
    rw [e24]
    exact ⟨rfl, N24, K27, t29, t30, f25⟩
def Q_rc43_empty (Z : State) (aE : Addr)  (h0 : Heap) (n0 : Nat) (v : Option Value) (h : Heap) (L : List Loc) : Prop := v = some (.ref aE) ∧ Fr n0 L ∧ h = h0
set_option maxRecDepth 65536 in
set_option maxHeartbeats 40000000 in
theorem rc43_empty (l : Launch) (Z : State) (a0 : Array Value) (hw : ∀ d ∈ tables_1, d.before a0 Z = true) (ws : List Jvm.Cond) (cs : Int32) (aE : Addr) (hS : SB Z cs aE)  (h0 : Heap) (n0 : Nat) (O0 : Old Z n0 h0)  :
    Met l my_39 jdk_2650_method_2_code 0 (some (.object nOption_1)) ws ({ frames := 0, cells := 0, slots := 0, locals := 0 } : Room) #[] Z h0 (Q_rc43_empty Z aE h0 n0) := by
  refine MetFree.of_bodySF (plainFor_of_name pn_15) hisR ?_
  intro p e s m args below meth c s₁ Bd hml0 hP hK
  obtain ⟨rfl, hZ, hh⟩ := hP
  have hx := Bd.exec
  have hby := Bd.bytes
  have hml : c.maxLocals = 0 := hml0
  have hown : s.vm.findClass nOption_1 = some m.cls := findClass_of_methodNamed Bd.named
  have hnm := (name_of_methodNamed Bd.named Bd.method).1
  have X0 : Stand p l e ({ frames := 0, cells := 0, slots := 0, locals := 0 } : Room) s m #[] below meth c s₁ [] 0 0 := Stand.of_body Bd
  have e0 : s₁.heap = h0 := by rw [← hh, Bd.state]; rfl
  have N0 := Fr.nil n0
  obtain ⟨f₀, hf₀⟩ : ∃ f, f = entryFrame m #[] 0 := ⟨_, rfl⟩
  rw [← hf₀]
  have pre0 : Go p e below s₁ f₀ s₁ (mkF m 0 #[] []) := fun t kk => castTop (hf₀.trans (ef_rc43_empty m )) kk
  obtain ⟨T1, X1, e1, st1⟩ := getS2 X0 hx hZ hown (host := "") (Or.inl (wq hw 101 rfl)) Via.refl e0 (hS.2.2.1.ext O0.2) (g := (mkF m 0 #[] [])) rfl (hb hby d_jdk_2650_method_2_0)
  obtain ⟨fs, hr, hrun, hended, hW, hsame⟩ := X1.leave (v := (some (.ref aE))) (fun h => by rw [Bd.returns] at h; cases h)
  refine ⟨_, _, pre0 _ ?_, hrun, hended, _, _, rfl, ?_, ⟨_, rfl⟩, hW, hsame.mono (by decide) (by decide)⟩
  · refine st1 _ ?_
    exact retOut X1 hx Bd.returns rfl (Or.inr (Or.inr (Or.inr (Or.inr ⟨rfl, rfl, rfl⟩)))) (hb hby d_jdk_2650_method_2_3) hr
  · show Q_rc43_empty Z aE h0 n0 _ T1.heap _
    rw [e1]
    exact ⟨rfl, N0, rfl⟩
def Q_rc46_requireNonNull (Z : State) (aE : Addr) (a1 : Addr) (a2 : Addr) (h0 : Heap) (n0 : Nat) (v : Option Value) (h : Heap) (L : List Loc) : Prop := v = some (.ref a1) ∧ Fr n0 L ∧ h = h0
set_option maxRecDepth 65536 in
set_option maxHeartbeats 40000000 in
theorem rc46_requireNonNull (l : Launch) (Z : State) (a0 : Array Value) (hw : ∀ d ∈ tables_1, d.before a0 Z = true) (ws : List Jvm.Cond) (cs : Int32) (aE : Addr) (hS : SB Z cs aE) (a1 : Addr) (a2 : Addr) (h0 : Heap) (n0 : Nat) (O0 : Old Z n0 h0)  :
    Met l my_35 jdk_31_method_11_code 2 (some (.object nObject_12)) ws ({ frames := 0, cells := 0, slots := 0, locals := 0 } : Room) #[(.ref a1), (.ref a2)] Z h0 (Q_rc46_requireNonNull Z aE a1 a2 h0 n0) := by
  refine MetFree.of_bodySF (plainFor_of_name pn_8) hisR ?_
  intro p e s m args below meth c s₁ Bd hml0 hP hK
  obtain ⟨rfl, hZ, hh⟩ := hP
  have hx := Bd.exec
  have hby := Bd.bytes
  have hml : c.maxLocals = 2 := hml0
  have hown : s.vm.findClass "java/util/Objects" = some m.cls := findClass_of_methodNamed Bd.named
  have hnm := (name_of_methodNamed Bd.named Bd.method).1
  have X0 : Stand p l e ({ frames := 0, cells := 0, slots := 0, locals := 0 } : Room) s m #[(.ref a1), (.ref a2)] below meth c s₁ [] 0 0 := Stand.of_body Bd
  have e0 : s₁.heap = h0 := by rw [← hh, Bd.state]; rfl
  have N0 := Fr.nil n0
  obtain ⟨f₀, hf₀⟩ : ∃ f, f = entryFrame m #[(.ref a1), (.ref a2)] 2 := ⟨_, rfl⟩
  rw [← hf₀]
  have pre0 : Go p e below s₁ f₀ s₁ (mkF m 0 #[.val (.ref a1), .val (.ref a2)] []) := fun t kk => castTop (hf₀.trans (ef_rc46_requireNonNull m (a1) (a2))) kk
  obtain ⟨fs, hr, hrun, hended, hW, hsame⟩ := X0.leave (v := (some (.ref a1))) (fun h => by rw [Bd.returns] at h; cases h)
  refine ⟨_, _, pre0 _ ?_, hrun, hended, _, _, rfl, ?_, ⟨_, rfl⟩, hW, hsame.mono (by decide) (by decide)⟩
  · refine XS.aloadN X0.here hx rfl (hb hby d_jdk_31_method_11_0) rfl rfl ?_
    refine XS.ifnonnullYes X0.here hx rfl (pc0 := 1) (pc' := 13) rfl (hb hby d_jdk_31_method_11_1) rfl (by decide) (by decide) ?_
    refine XS.aloadN X0.here hx rfl (hb hby d_jdk_31_method_11_13) rfl rfl ?_
    exact retOut X0 hx Bd.returns rfl (Or.inr (Or.inr (Or.inr (Or.inr ⟨rfl, rfl, rfl⟩)))) (hb hby d_jdk_31_method_11_14) hr
  · show Q_rc46_requireNonNull Z aE a1 a2 h0 n0 _ s₁.heap _
    rw [e0]
    exact ⟨rfl, N0, rfl⟩
def Q_rc47_isPresent (Z : State) (aE : Addr) (a1 : Addr) (h0 : Heap) (n0 : Nat) (v : Option Value) (h : Heap) (L : List Loc) : Prop := v = some (.int (0 : Int32)) ∧ Fr n0 L ∧ h = h0
set_option maxRecDepth 65536 in
set_option maxHeartbeats 40000000 in
theorem rc47_isPresent (l : Launch) (Z : State) (a0 : Array Value) (hw : ∀ d ∈ tables_1, d.before a0 Z = true) (ws : List Jvm.Cond) (cs : Int32) (aE : Addr) (hS : SB Z cs aE) (a1 : Addr) (h0 : Heap) (n0 : Nat) (O0 : Old Z n0 h0) (F_a1_isPresent : Fld Z h0 a1 nOption_1 "isPresent" "Z" (.int (0 : Int32))) :
    Met l my_40 jdk_2650_method_6_code 1 (some .boolean) ws ({ frames := 0, cells := 0, slots := 0, locals := 0 } : Room) #[(.ref a1)] Z h0 (Q_rc47_isPresent Z aE a1 h0 n0) := by
  refine MetFree.of_bodySF (plainFor_of_name pn_15) hisR ?_
  intro p e s m args below meth c s₁ Bd hml0 hP hK
  obtain ⟨rfl, hZ, hh⟩ := hP
  have hx := Bd.exec
  have hby := Bd.bytes
  have hml : c.maxLocals = 1 := hml0
  have hown : s.vm.findClass nOption_1 = some m.cls := findClass_of_methodNamed Bd.named
  have hnm := (name_of_methodNamed Bd.named Bd.method).1
  have X0 : Stand p l e ({ frames := 0, cells := 0, slots := 0, locals := 0 } : Room) s m #[(.ref a1)] below meth c s₁ [] 0 0 := Stand.of_body Bd
  have e0 : s₁.heap = h0 := by rw [← hh, Bd.state]; rfl
  have N0 := Fr.nil n0
  obtain ⟨f₀, hf₀⟩ : ∃ f, f = entryFrame m #[(.ref a1)] 1 := ⟨_, rfl⟩
  rw [← hf₀]
  have pre0 : Go p e below s₁ f₀ s₁ (mkF m 0 #[.val (.ref a1)] []) := fun t kk => castTop (hf₀.trans (ef_rc47_isPresent m (a1))) kk
  obtain ⟨T1, X1, e1, st1⟩ := getF X0 hx hZ hown (host := "") (Or.inl (wq hw 117 rfl)) Via.refl e0 F_a1_isPresent (g := (mkF m 1 #[.val (.ref a1)] [(.ref a1)])) rfl rfl (hb hby d_jdk_2650_method_6_1)
  obtain ⟨fs, hr, hrun, hended, hW, hsame⟩ := X1.leave (v := (some (.int (0 : Int32)))) (fun h => by rw [Bd.returns] at h; cases h)
  refine ⟨_, _, pre0 _ ?_, hrun, hended, _, _, rfl, ?_, ⟨_, rfl⟩, hW, hsame.mono (by decide) (by decide)⟩
  · refine XS.aloadN X0.here hx rfl (hb hby d_jdk_2650_method_6_0) rfl rfl ?_
    refine st1 _ ?_
    exact retN X1 hx (t := .boolean) Bd.returns (by simp) (hb hby d_jdk_2650_method_6_4) hr
  · show Q_rc47_isPresent Z aE a1 h0 n0 _ T1.heap _
    rw [e1]
    exact ⟨rfl, N0, rfl⟩
def Q_rc45_checkDeadline (Z : State) (aE : Addr) (a1 : Addr) (h0 : Heap) (n0 : Nat) (v : Option Value) (h : Heap) (L : List Loc) : Prop := v = none ∧ Fr n0 L ∧ Keep h0 h []
set_option maxRecDepth 65536 in
set_option maxHeartbeats 40000000 in
theorem rc45_checkDeadline (l : Launch) (Z : State) (a0 : Array Value) (hw : ∀ d ∈ tables_1, d.before a0 Z = true) (ws : List Jvm.Cond) (cs : Int32) (aE : Addr) (hS : SB Z cs aE) (a1 : Addr) (h0 : Heap) (n0 : Nat) (O0 : Old Z n0 h0) (E_a1 : Exa Z h0 a1 nOption_1) (F_a1_isPresent : Fld Z h0 a1 nOption_1 "isPresent" "Z" (.int (0 : Int32))) :
    MetW l my_41 prog_36_method_2_code 1 none ws ({ frames := 1, cells := 2, slots := 36, locals := 13 } : Room) #[(.ref a1)] Z h0 (Q_rc45_checkDeadline Z aE a1 h0 n0) := by
  refine MetFree.of_bodySF (plainFor_of_name pn_0) hisR ?_
  intro p e s m args below meth c s₁ Bd hml0 hP hK
  obtain ⟨rfl, hZ, hh⟩ := hP
  have hx := Bd.exec
  have hby := Bd.bytes
  have hml : c.maxLocals = 1 := hml0
  have hown : s.vm.findClass nPredec_4 = some m.cls := findClass_of_methodNamed Bd.named
  have hnm := (name_of_methodNamed Bd.named Bd.method).1
  have X0 : Stand p l e ({ frames := 1, cells := 2, slots := 36, locals := 13 } : Room) (s.setVm s.vm) m #[(.ref a1)] below meth c s₁ [] 0 0 := Stand.of_body Bd
  have e0 : s₁.heap = h0 := by rw [← hh, Bd.state]; rfl
  have N0 := Fr.nil n0
  obtain ⟨f₀, hf₀⟩ : ∃ f, f = entryFrame m #[(.ref a1)] 1 := ⟨_, rfl⟩
  rw [← hf₀]
  have pre0 : Go p e below s₁ f₀ s₁ (mkF m 0 #[.val (.ref a1)] []) := fun t kk => castTop (hf₀.trans (ef_rc45_checkDeadline m (a1))) kk
  have hZ0 : Z.Warmed39 (s.setVm s.vm).vm := hZ
  have hown0 : (s.setVm s.vm).vm.findClass nPredec_4 = some m.cls := hown
  have hS0 : s.Since s.vm s.heap.size := (State.WarmedH.refl s).since _
  have hk0 : s.heap.size ≤ h0.size := by rw [hh]; exact Nat.le_refl _
  obtain ⟨sa1, T1, h1, k1, X1, e1, E1, hS1, hk1, hZ1, hown1, st1⟩ := ldcS X0 hx hZ0 hown0 (wq hw 111 rfl) (own_wS hw) e0 hS0 hk0 (g := (mkF m 1 #[.val (.ref a1)] [(.ref a1)])) rfl (hb hby d_prog_36_method_2_1) (n := 32) (by decide) (by decide) (by decide) (by decide)
  have O2 : Old Z n0 h1 := Old.ext O0 E1
  have K3 : Keep h0 h1 [] := (Keep.refl h0 []).ext E1
  have hk4 := Nat.le_trans hk0 E1.1
  obtain ⟨_, _, ⟨T5, L5, k5, n5⟩, -, X5, ⟨Lc5, hQ5, l5, y5, z5⟩, st5⟩ := Jvm.LawKit.callS X1 hx (y := my_35) hown1 (mvT hZ1 (wq hw 107 rfl)) (mvT hZ1 (wq hw 80 rfl)) (mvT hZ1 (wq hw 81 rfl)) (mvT hZ1 (wq hw 82 rfl)) (by decide) (backOf (W := 0) (rc46_requireNonNull l Z a0 hw [] cs aE hS a1 sa1 h1 n0 O2 ) hZ1 (wq hw 82 rfl) (wq hw 81 rfl) (by decide) (by decide)) (g := (mkF m 3 #[.val (.ref a1)] [(.ref sa1), (.ref a1)])) rfl (by rw [hml]; rfl) (argsL := [(.ref a1), (.ref sa1)]) (rest := []) (lenOf pd_21 rfl) rfl (by show 2 * 0 + _ ≤ _; exact Nat.le_of_eq rfl) (hb hby d_prog_36_method_2_3) (fun _ _ => ⟨rfl, e1, (by decide : 2 + 0 ≤ _), (by decide : 36 + 0 ≤ _)⟩)
  dsimp only [Pt.U, Pt.locs, Pt.cells, Pt.slots] at X5 l5 y5 z5 st5 hQ5
  have X5 := own_to X5 l5 y5 z5
  obtain ⟨rfl, N5q, e5⟩ := hQ5
  have N5 := Fr.app N0 N5q
  have t6 : Exa Z h1 a1 nOption_1 := (E_a1.ext E1)
  have t7 : Fld Z h1 a1 nOption_1 "isPresent" "Z" (.int (0 : Int32)) := (F_a1_isPresent.ext E1)
  obtain ⟨cq8, kq8, q8a, q8b, q8c⟩ := isOf hZ1 e5 (t6)
  obtain ⟨_, _, ⟨T8, L8, k8, n8⟩, -, X8, ⟨Lc8, hQ8, l8, y8, z8⟩, st8⟩ := X5.virtualBack hx (y := my_40) (z := my_40) hown1 (mvT hZ1 (wq hw 112 rfl)) (mvT hZ1 (wq hw 113 rfl)) (notFace_of_selects (args := #[]) (mvT hZ1 (wq hw 115 rfl))) (mvT hZ1 (wq hw 115 rfl)) (mvT hZ1 (wq hw 114 rfl)) (by decide) (backOf (W := 0) (rc47_isPresent l Z a0 hw [] cs aE hS a1 h1 n0 O2 t7) hZ1 (wq hw 116 rfl) (wq hw 99 rfl) (by decide) (by decide)) q8a q8c (g := (mkF m 8 #[.val (.ref a1)] [(.ref a1)])) rfl (by rw [hml]; rfl) (Steps.refl _) (argsL := []) (rest := []) (lenOf pd_14 rfl) rfl (by show 2 * 0 + _ ≤ _; exact Nat.le_of_eq rfl) (hb hby d_prog_36_method_2_8) (fun _ _ => ⟨rfl, e5, (by decide : 2 + 0 ≤ _), (by decide : 36 + 0 ≤ _)⟩)
  dsimp only [Pt.U, Pt.locs, Pt.cells, Pt.slots] at X8 l8 y8 z8 st8 hQ8
  have X8 := own_to X8 l8 y8 z8
  obtain ⟨rfl, N8q, e8⟩ := hQ8
  have N8 := Fr.app N5 N8q
  obtain ⟨fs, hr, hrun, hended, hEW⟩ := Jvm.Stand.leaveW X8 hS1 (by rw [e8]; exact hk1) (v := none) (fun _ => rfl)
  refine ⟨_, _, pre0 _ ?_, hrun, hended, _, _, rfl, ?_, ⟨_, rfl⟩, hEW.2.1, hEW.2.2.1, hEW.2.2.2.mono (by decide) (by decide)⟩
  · refine XS.aloadN X0.here hx rfl (hb hby d_prog_36_method_2_0) rfl rfl ?_
    refine st1 _ ?_
    refine st5 _ ?_
    refine XS.pop X5.here hx rfl (hb hby d_prog_36_method_2_6) rfl rfl ?_
    refine XS.aloadN X5.here hx rfl (hb hby d_prog_36_method_2_7) rfl rfl ?_
    refine st8.trans ?_
    refine XS.ifYes X8.here hx rfl (pc0 := 11) (pc' := 40) rfl (hb hby d_prog_36_method_2_11) rfl ((if0 _ _).trans (teq (by decide : (0 : Int32) = (0 : Int32))).1) (by decide) (by decide) ?_
    exact X8.returnOut hx Bd.returns (hb hby d_prog_36_method_2_40) hr
  · show Q_rc45_checkDeadline Z aE a1 h0 n0 _ T8.heap _
    rw [e8]
    exact ⟨rfl, N8, K3⟩
def Q_rc44_init (Z : State) (aE : Addr) (a1 : Addr) (a2 : Addr) (a3 : Addr) (h0 : Heap) (n0 : Nat) (v : Option Value) (h : Heap) (L : List Loc) : Prop := v = none ∧ Fr n0 L ∧ Keep h0 h [a1] ∧ Exa Z h a1 nPredec_4 ∧ Fld Z h a1 nPredec_4 "deadline" nOption_2 (.ref a3) ∧ Fld Z h a1 nPredec_4 "id" nMessag_5 (.ref a2)
set_option maxRecDepth 65536 in
set_option maxHeartbeats 40000000 in
theorem rc44_init (l : Launch) (Z : State) (a0 : Array Value) (hw : ∀ d ∈ tables_1, d.before a0 Z = true) (ws : List Jvm.Cond) (cs : Int32) (aE : Addr) (hS : SB Z cs aE) (a1 : Addr) (a2 : Addr) (a3 : Addr) (h0 : Heap) (n0 : Nat) (O0 : Old Z n0 h0) (g_a1 : n0 ≤ a1) (g_a2 : n0 ≤ a2) (E_a1 : Exa Z h0 a1 nPredec_4) (F_a1_deadline : Fld Z h0 a1 nPredec_4 "deadline" nOption_2 .null) (F_a1_id : Fld Z h0 a1 nPredec_4 "id" nMessag_5 .null) (E_a3 : Exa Z h0 a3 nOption_1) (F_a3_isPresent : Fld Z h0 a3 nOption_1 "isPresent" "Z" (.int (0 : Int32))) :
    MetW l my_42 prog_36_method_1_code 3 none ws ({ frames := 2, cells := 4, slots := 48, locals := 25 } : Room) #[(.ref a1), (.ref a2), (.ref a3)] Z h0 (Q_rc44_init Z aE a1 a2 a3 h0 n0) := by
  refine MetFree.of_bodySF (plainFor_of_name pn_0) hisR ?_
  intro p e s m args below meth c s₁ Bd hml0 hP hK
  obtain ⟨rfl, hZ, hh⟩ := hP
  have hx := Bd.exec
  have hby := Bd.bytes
  have hml : c.maxLocals = 3 := hml0
  have hown : s.vm.findClass nPredec_4 = some m.cls := findClass_of_methodNamed Bd.named
  have hnm := (name_of_methodNamed Bd.named Bd.method).1
  have X0 : Stand p l e ({ frames := 2, cells := 4, slots := 48, locals := 25 } : Room) (s.setVm s.vm) m #[(.ref a1), (.ref a2), (.ref a3)] below meth c s₁ [] 0 0 := Stand.of_body Bd
  have e0 : s₁.heap = h0 := by rw [← hh, Bd.state]; rfl
  have N0 := Fr.nil n0
  obtain ⟨f₀, hf₀⟩ : ∃ f, f = entryFrame m #[(.ref a1), (.ref a2), (.ref a3)] 3 := ⟨_, rfl⟩
  rw [← hf₀]
  have pre0 : Go p e below s₁ f₀ s₁ (mkF m 0 #[.val (.ref a1), .val (.ref a2), .val (.ref a3)] []) := fun t kk => castTop (hf₀.trans (ef_rc44_init m (a1) (a2) (a3))) kk
  have hZ0 : Z.Warmed39 (s.setVm s.vm).vm := hZ
  have hown0 : (s.setVm s.vm).vm.findClass nPredec_4 = some m.cls := hown
  have hS0 : s.Since s.vm s.heap.size := (State.WarmedH.refl s).since _
  have hk0 : s.heap.size ≤ h0.size := by rw [hh]; exact Nat.le_refl _
  obtain ⟨_, _, ⟨T1, L1, k1, n1⟩, -, X1, ⟨Lc1, hQ1, l1, y1, z1⟩, st1⟩ := X0.specialBack hx (y := my_34) rfl hown0 (mvT hZ0 (wq hw 105 rfl)) (mvT hZ0 (wq hw 71 rfl)) (mvT hZ0 (wq hw 74 rfl)) (by decide) (backOf (W := 0) (rc39_init l Z a0 hw [] cs aE hS a1 h0 n0 O0 g_a1) hZ0 (wq hw 74 rfl) (wq hw 73 rfl) (by decide) (by decide)) (g := (mkF m 1 #[.val (.ref a1), .val (.ref a2), .val (.ref a3)] [(.ref a1)])) rfl (by rw [hml]; rfl) (Steps.refl _) (a := a1) (argsL := []) (rest := []) (lenOf pd_4 rfl) rfl (by show 2 * 0 + _ ≤ _; exact Nat.le_of_eq rfl) (hb hby d_prog_36_method_1_1) (fun _ _ => ⟨rfl, e0, (by decide : 0 + 0 ≤ _), (by decide : 0 + 0 ≤ _)⟩)
  dsimp only [Pt.U, Pt.locs, Pt.cells, Pt.slots] at X1 l1 y1 z1 st1 hQ1
  have X1 := own_to X1 l1 y1 z1
  obtain ⟨rfl, N1q, e1⟩ := hQ1
  have N1 := Fr.app N0 N1q
  obtain ⟨sa2, T2, h2, k2, X2, e2, E2, hS2, hk2, hZ2, hown2, st2⟩ := ldcS X1 hx hZ0 hown0 (wq hw 106 rfl) (own_wS hw) e1 hS0 hk0 (g := (mkF m 5 #[.val (.ref a1), .val (.ref a2), .val (.ref a3)] [(.ref a2)])) rfl (hb hby d_prog_36_method_1_5) (n := 8) (by decide) (by decide) (by decide) (by decide)
  have O3 : Old Z n0 h2 := Old.ext O0 E2
  have K4 : Keep h0 h2 [a1] := (Keep.refl h0 [a1]).ext E2
  have hk5 := Nat.le_trans hk0 E2.1
  obtain ⟨_, _, ⟨T6, L6, k6, n6⟩, -, X6, ⟨Lc6, hQ6, l6, y6, z6⟩, st6⟩ := Jvm.LawKit.callS X2 hx (y := my_35) hown2 (mvT hZ2 (wq hw 107 rfl)) (mvT hZ2 (wq hw 80 rfl)) (mvT hZ2 (wq hw 81 rfl)) (mvT hZ2 (wq hw 82 rfl)) (by decide) (backOf (W := 0) (rc40_requireNonNull l Z a0 hw [] cs aE hS a2 sa2 h2 n0 O3 g_a2) hZ2 (wq hw 82 rfl) (wq hw 81 rfl) (by decide) (by decide)) (g := (mkF m 7 #[.val (.ref a1), .val (.ref a2), .val (.ref a3)] [(.ref sa2), (.ref a2)])) rfl (by rw [hml]; rfl) (argsL := [(.ref a2), (.ref sa2)]) (rest := []) (lenOf pd_21 rfl) rfl (by show 2 * 0 + _ ≤ _; exact Nat.le_of_eq rfl) (hb hby d_prog_36_method_1_7) (fun _ _ => ⟨rfl, e2, (by decide : 2 + 0 ≤ _), (by decide : 12 + 0 ≤ _)⟩)
  dsimp only [Pt.U, Pt.locs, Pt.cells, Pt.slots] at X6 l6 y6 z6 st6 hQ6
  have X6 := own_to X6 l6 y6 z6
  obtain ⟨rfl, N6q, e6⟩ := hQ6
  have N6 := Fr.app N1 N6q
  have t7 : Exa Z h2 a3 nOption_1 := (E_a3.ext E2)
  have t8 : Fld Z h2 a3 nOption_1 "isPresent" "Z" (.int (0 : Int32)) := (F_a3_isPresent.ext E2)
  obtain ⟨_, _, ⟨T9, L9, k9, n9⟩, -, X9, hSi9, hge9, ⟨Lc9, hQ9, l9, y9, z9⟩, st9⟩ := callSS X6 hx (y := my_41) hown2 (mvT hZ2 (wq hw 108 rfl)) (mvT hZ2 (wq hw 109 rfl)) (mvT hZ2 (wq hw 63 rfl)) (mvT hZ2 (wq hw 110 rfl)) (by decide) (backOfS (W := 0) (rc45_checkDeadline l Z a0 hw [] cs aE hS a3 h2 n0 O3 t7 t8) hZ2 (wq hw 110 rfl) (wq hw 63 rfl) (by decide) (by decide)) (g := (mkF m 12 #[.val (.ref a1), .val (.ref a2), .val (.ref a3)] [(.ref a3)])) rfl (by rw [hml]; rfl) (argsL := [(.ref a3)]) (rest := []) (lenOf pd_25 rfl) rfl (by show 2 * 0 + _ ≤ _; exact Nat.le_of_eq rfl) (hb hby d_prog_36_method_1_12) (fun _ _ => ⟨rfl, e6, (by decide : 2 + 2 ≤ _), (by decide : 12 + 36 ≤ _)⟩)
  dsimp only [Pt.U, Pt.locs, Pt.cells, Pt.slots] at X9 l9 y9 z9 st9 hQ9 hSi9 hge9
  have X9 := own_to X9 l9 y9 z9
  obtain ⟨X9r, hS9, hZ9, hown9⟩ := rebS hS2 hk2 X9 hSi9 (by rw [← e6]; exact hge9) hZ2 hown2
  obtain ⟨rfl, N9q, K9⟩ := hQ9
  have N9 := Fr.app N6 N9q
  have O10 : Old Z n0 T9.heap := Old.keep O3 K9 all0
  have K11 : Keep h0 T9.heap [a1] := K4.trans K9 all0
  have t12 : Exa Z T9.heap a1 nPredec_4 := ((E_a1.ext E2).keep K9)
  have t13 : Fld Z T9.heap a1 nPredec_4 "id" nMessag_5 .null := ((F_a1_id.ext E2).keep K9 nin0)
  obtain ⟨T14, h14, X14, e14, W14, st14⟩ := putF X9r hx hZ9 hown9 (host := "") (Or.inl (wq hw 119 rfl)) Via.refl rfl t13 t12 (Or.inr ⟨(wq hw 120 rfl), rfl, hnm⟩) (wq hw 62 rfl) (ty := (.object nMessag_6)) (by decide) rfl rfl (g := (mkF m 17 #[.val (.ref a1), .val (.ref a2), .val (.ref a3)] [(.ref a2), (.ref a1)])) rfl rfl (hb hby d_prog_36_method_1_17)
  have f15 : Fld Z h14 a1 nPredec_4 "id" nMessag_5 (.ref a2) := t13.same W14
  have N14 := Fr.snoc X14 N9 g_a1
  have O16 : Old Z n0 h14 := Old.wr O10 W14 g_a1
  have K17 : Keep h0 h14 [a1] := K11.wr W14 (Or.inl (List.mem_of_getElem? (i := 0) rfl))
  have hk18 := Nat.le_trans (Nat.le_refl _) (Keep.of_wr W14).1
  have t19 : Exa Z h14 a1 nPredec_4 := (t12.wr W14)
  have t20 : Fld Z h14 a1 nPredec_4 "deadline" nOption_2 .null := (((F_a1_deadline.ext E2).keep K9 nin0).other W14 (Or.inr (slot_ne (Or.inr (wq hw 122 rfl)) (Or.inr (wq hw 120 rfl)) (by decide) (t := (.object nOption_1)) (t' := (.object nMessag_6)) (by decide) (by decide))))
  obtain ⟨T21, h21, X21, e21, W21, st21⟩ := putF X14 hx hZ9 hown9 (host := "") (Or.inl (wq hw 121 rfl)) Via.refl e14 t20 t19 (Or.inr ⟨(wq hw 122 rfl), rfl, hnm⟩) (wq hw 62 rfl) (ty := (.object nOption_1)) (by decide) rfl rfl (g := (mkF m 22 #[.val (.ref a1), .val (.ref a2), .val (.ref a3)] [(.ref a3), (.ref a1)])) rfl rfl (hb hby d_prog_36_method_1_22)
  have f22 : Fld Z h21 a1 nPredec_4 "deadline" nOption_2 (.ref a3) := t20.same W21
  have N21 := Fr.snoc X21 N14 g_a1
  have O23 : Old Z n0 h21 := Old.wr O16 W21 g_a1
  have K24 : Keep h0 h21 [a1] := K17.wr W21 (Or.inl (List.mem_of_getElem? (i := 0) rfl))
  have hk25 := Nat.le_trans hk18 (Keep.of_wr W21).1
  have t26 : Exa Z h21 a1 nPredec_4 := (t19.wr W21)
  have t27 : Fld Z h21 a1 nPredec_4 "id" nMessag_5 (.ref a2) := (f15.other W21 (Or.inr (slot_ne (Or.inr (wq hw 120 rfl)) (Or.inr (wq hw 122 rfl)) (by decide) (t := (.object nMessag_6)) (t' := (.object nOption_1)) (by decide) (by decide))))
  obtain ⟨fs, hr, hrun, hended, hEW⟩ := Jvm.Stand.leaveW X21 hS9 (by rw [e21]; exact hk25) (v := none) (fun _ => rfl)
  refine ⟨_, _, pre0 _ ?_, hrun, hended, _, _, rfl, ?_, ⟨_, rfl⟩, hEW.2.1, hEW.2.2.1, hEW.2.2.2.mono (by decide) (by decide)⟩
  · refine XS.aloadN X0.here hx rfl (hb hby d_prog_36_method_1_0) rfl rfl ?_
    refine st1.trans ?_
    refine XS.aloadN X1.here hx rfl (hb hby d_prog_36_method_1_4) rfl rfl ?_
    refine st2 _ ?_
    refine st6 _ ?_
    refine XS.pop X6.here hx rfl (hb hby d_prog_36_method_1_10) rfl rfl ?_
    refine XS.aloadN X6.here hx rfl (hb hby d_prog_36_method_1_11) rfl rfl ?_
    refine st9.trans ?_
    refine XS.aloadN X9r.here hx rfl (hb hby d_prog_36_method_1_15) rfl rfl ?_
    refine XS.aloadN X9r.here hx rfl (hb hby d_prog_36_method_1_16) rfl rfl ?_
    refine st14 _ ?_
    refine XS.aloadN X14.here hx rfl (hb hby d_prog_36_method_1_20) rfl rfl ?_
    refine XS.aloadN X14.here hx rfl (hb hby d_prog_36_method_1_21) rfl rfl ?_
    refine st21 _ ?_
    exact X21.returnOut hx Bd.returns (hb hby d_prog_36_method_1_25) hr
  · show Q_rc44_init Z aE a1 a2 a3 h0 n0 _ T21.heap _
    rw [e21]
    exact ⟨rfl, N21, K24, t26, f22, t27⟩
def Q_rc48_isNamed (Z : State) (aE : Addr) (a1 : Addr) (h0 : Heap) (n0 : Nat) (v : Option Value) (h : Heap) (L : List Loc) : Prop := v = some (.int (0 : Int32)) ∧ Fr n0 L ∧ h = h0
set_option maxRecDepth 65536 in
set_option maxHeartbeats 40000000 in
theorem rc48_isNamed (l : Launch) (Z : State) (a0 : Array Value) (hw : ∀ d ∈ tables_1, d.before a0 Z = true) (ws : List Jvm.Cond) (cs : Int32) (aE : Addr) (hS : SB Z cs aE) (a1 : Addr) (h0 : Heap) (n0 : Nat) (O0 : Old Z n0 h0) (g_a1 : n0 ≤ a1) (F_a1_named : Fld Z h0 a1 nKnownO_3 "named" nPredec_7 .null) :
    Met l my_26 prog_22_method_13_code 1 (some .boolean) ws ({ frames := 0, cells := 0, slots := 0, locals := 0 } : Room) #[(.ref a1)] Z h0 (Q_rc48_isNamed Z aE a1 h0 n0) := by
  refine MetFree.of_bodySF (plainFor_of_name pn_2) hisR ?_
  intro p e s m args below meth c s₁ Bd hml0 hP hK
  obtain ⟨rfl, hZ, hh⟩ := hP
  have hx := Bd.exec
  have hby := Bd.bytes
  have hml : c.maxLocals = 1 := hml0
  have hown : s.vm.findClass nKnownO_3 = some m.cls := findClass_of_methodNamed Bd.named
  have hnm := (name_of_methodNamed Bd.named Bd.method).1
  have X0 : Stand p l e ({ frames := 0, cells := 0, slots := 0, locals := 0 } : Room) s m #[(.ref a1)] below meth c s₁ [] 0 0 := Stand.of_body Bd
  have e0 : s₁.heap = h0 := by rw [← hh, Bd.state]; rfl
  have N0 := Fr.nil n0
  obtain ⟨f₀, hf₀⟩ : ∃ f, f = entryFrame m #[(.ref a1)] 1 := ⟨_, rfl⟩
  rw [← hf₀]
  have pre0 : Go p e below s₁ f₀ s₁ (mkF m 0 #[.val (.ref a1)] []) := fun t kk => castTop (hf₀.trans (ef_rc48_isNamed m (a1))) kk
  obtain ⟨T1, X1, e1, st1⟩ := getF X0 hx hZ hown (host := "") (Or.inl (wq hw 128 rfl)) Via.refl e0 F_a1_named (g := (mkF m 1 #[.val (.ref a1)] [(.ref a1)])) rfl rfl (hb hby d_prog_22_method_13_1)
  obtain ⟨fs, hr, hrun, hended, hW, hsame⟩ := X1.leave (v := (some (.int (0 : Int32)))) (fun h => by rw [Bd.returns] at h; cases h)
  refine ⟨_, _, pre0 _ ?_, hrun, hended, _, _, rfl, ?_, ⟨_, rfl⟩, hW, hsame.mono (by decide) (by decide)⟩
  · refine XS.aloadN X0.here hx rfl (hb hby d_prog_22_method_13_0) rfl rfl ?_
    refine st1 _ ?_
    refine XS.ifnullYes X1.here hx rfl (pc0 := 4) (pc' := 11) rfl (hb hby d_prog_22_method_13_4) rfl (by decide) (by decide) ?_
    refine XS.iconst X1.here hx rfl (hb hby d_prog_22_method_13_11) ?_
    exact retN X1 hx (t := .boolean) Bd.returns (by simp) (hb hby d_prog_22_method_13_12) hr
  · show Q_rc48_isNamed Z aE a1 h0 n0 _ T1.heap _
    rw [e1]
    exact ⟨rfl, N0, rfl⟩
set_option maxRecDepth 65536 in
set_option maxHeartbeats 40000000 in
theorem rm0 (l : Launch) (Z : State) (a0 : Array Value) (hw : ∀ d ∈ tables_1, d.before a0 Z = true) (ws : List Jvm.Cond) (cs : Int32) (aE : Addr) (hS : SB Z cs aE) (zA zB : Int64) (p2 p3 p4 : Int32) (h0 : Heap) (n0 : Nat) (O0 : Old Z n0 h0) :
    MetW l x code maxLocals ret ws room_1 #[(.long zA), (.long zB), (.int p2), (.int p3), (.int p4)] Z h0 (Q0 n0) := by
  refine MetFree.of_bodySF (plainFor_of_name pn_3) hisR ?_
  intro p e s m args below meth c s₁ Bd hml0 hP hK
  obtain ⟨rfl, hZ, hh⟩ := hP
  have hx := Bd.exec
  have hby := Bd.bytes
  have hml : c.maxLocals = 18 := hml0
  have hown : s.vm.findClass nKnownO_13 = some m.cls := findClass_of_methodNamed Bd.named
  have hnm := (name_of_methodNamed Bd.named Bd.method).1
  have X0 : Stand p l e room_1 (s.setVm s.vm) m #[(.long zA), (.long zB), (.int p2), (.int p3), (.int p4)] below meth c s₁ [] 0 0 := Stand.of_body Bd
  have e0 : s₁.heap = h0 := by rw [← hh, Bd.state]; rfl
  have N0 := Fr.nil n0
  obtain ⟨f₀, hf₀⟩ : ∃ f, f = entryFrame m #[(.long zA), (.long zB), (.int p2), (.int p3), (.int p4)] maxLocals := ⟨_, rfl⟩
  rw [← hf₀]
  have pre0 : Go p e below s₁ f₀ s₁ (mkF m 0 #[.val (.long zA), .second, .val (.long zB), .second, .val (.int p2), .val (.int p3), .val (.int p4), .unset, .unset, .unset, .unset, .unset, .unset, .unset, .unset, .unset, .unset, .unset] []) := fun t kk => castTop (hf₀.trans (ef_rm0 m (zA) (zB) (p2) (p3) (p4))) kk
  have hZ0 : Z.Warmed39 (s.setVm s.vm).vm := hZ
  have hown0 : (s.setVm s.vm).vm.findClass nKnownO_13 = some m.cls := hown
  have hS0 : s.Since s.vm s.heap.size := (State.WarmedH.refl s).since _
  have hk0 : s.heap.size ≤ h0.size := by rw [hh]; exact Nat.le_refl _
  obtain ⟨_, _, ⟨T1, L1, k1, n1⟩, -, X1, ⟨Lc1, hQ1, l1, y1, z1⟩, st1⟩ := Jvm.LawKit.callS X0 hx (y := my_30) hown0 (mvT hZ0 (wq hw 0 rfl)) (mvT hZ0 (wq hw 1 rfl)) (mvT hZ0 (wq hw 2 rfl)) (mvT hZ0 (wq hw 3 rfl)) (by decide) (backOf (W := 0) (rc31_valueOf l Z a0 hw [] cs aE hS ((p4 &&& (255 : Int32)).toUInt32.toUInt16.toUInt32.toInt32) h0 n0 O0 (own_ch p4)) hZ0 (wq hw 3 rfl) (wq hw 2 rfl) (by decide) (by decide)) (g := (mkF m 7 #[.val (.long zA), .second, .val (.long zB), .second, .val (.int p2), .val (.int p3), .val (.int p4), .unset, .unset, .unset, .unset, .unset, .unset, .unset, .unset, .unset, .unset, .unset] [(.int ((p4 &&& (255 : Int32)).toUInt32.toUInt16.toUInt32.toInt32))])) rfl (by rw [hml]; rfl) (argsL := [(.int ((p4 &&& (255 : Int32)).toUInt32.toUInt16.toUInt32.toInt32))]) (rest := []) (lenOf pd_18 rfl) rfl (by show 2 * 0 + _ ≤ _; exact Nat.le_of_eq rfl) (hb hby at_7) (fun _ _ => ⟨rfl, e0, (by decide : 0 + 2 ≤ _), (by decide : 0 + 5 ≤ _)⟩)
  dsimp only [Pt.U, Pt.locs, Pt.cells, Pt.slots] at X1 l1 y1 z1 st1 hQ1
  have X1 := own_to X1 l1 y1 z1
  obtain ⟨x1_b3, x1_x10_b1, x1_x10_k1, rfl, N1q, K1, sz1_b3, sz1_x10_b1, q1_0, q1_1, q1_2, q1_3⟩ := hQ1
  have N1 := Fr.app N0 N1q
  have g2 : n0 ≤ x1_b3 := Nat.le_trans (Nat.le_of_eq O0.1.symm) (Nat.le_trans O0.2.1 sz1_b3)
  have ne3 : aE ≠ x1_b3 := Nat.ne_of_lt (Nat.lt_of_lt_of_le (hS.2.2.2.1.ext O0.2).lt sz1_b3)
  have g4 : n0 ≤ x1_x10_b1 := Nat.le_trans (Nat.le_of_eq O0.1.symm) (Nat.le_trans O0.2.1 sz1_x10_b1)
  have ne5 : aE ≠ x1_x10_b1 := Nat.ne_of_lt (Nat.lt_of_lt_of_le (hS.2.2.2.1.ext O0.2).lt sz1_x10_b1)
  have O6 : Old Z n0 T1.heap := Old.keep O0 K1 all0
  have hk7 := Nat.le_trans hk0 K1.1
  obtain ⟨_, _, ⟨T8, L8, k8, n8⟩, -, X8, ⟨Lc8, hQ8, l8, y8, z8⟩, st8⟩ := Jvm.LawKit.callS X1 hx (y := my_0) hown0 (mvT hZ0 (wq hw 27 rfl)) (mvT hZ0 (wq hw 28 rfl)) (mvT hZ0 (wq hw 29 rfl)) (mvT hZ0 (wq hw 30 rfl)) (by decide) (backOf (W := 0) (rm_max l Z a0 hw [] (1 : Int64) (zA &&& (9223372036854775807 : Int64)) T1.heap n0) hZ0 (wq hw 30 rfl) (wq hw 29 rfl) (by decide) (by decide)) (g := (mkF m 18 #[.val (.long zA), .second, .val (.long zB), .second, .val (.int p2), .val (.int p3), .val (.int p4), .val (.ref x1_b3), .unset, .unset, .unset, .unset, .unset, .unset, .unset, .unset, .unset, .unset] [(.long (zA &&& (9223372036854775807 : Int64))), (.long (1 : Int64))])) rfl (by rw [hml]; rfl) (argsL := [(.long (1 : Int64)), (.long (zA &&& (9223372036854775807 : Int64)))]) (rest := []) (lenOf pd_19 rfl) rfl (by show 2 * 0 + _ ≤ _; exact Nat.le_of_eq rfl) (hb hby at_18) (fun _ _ => ⟨rfl, rfl, (by decide : 2 + 0 ≤ _), (by decide : 5 + 0 ≤ _)⟩)
  dsimp only [Pt.U, Pt.locs, Pt.cells, Pt.slots] at X8 l8 y8 z8 st8 hQ8
  have X8 := own_to X8 l8 y8 z8
  obtain ⟨rfl, N8q, e8⟩ := hQ8
  have N8 := Fr.app N1 N8q
  have gp9 : Go p e below s₁ f₀ T8 (mkF m 27 #[.val (.long zA), .second, .val (.long zB), .second, .val (.int p2), .val (.int p3), .val (.int p4), .val (.ref x1_b3), .val (.long (own_max (1 : Int64) (zA &&& (9223372036854775807 : Int64)))), .second, .unset, .unset, .unset, .unset, .unset, .unset, .unset, .unset] [(.int (p2 &&& (1 : Int32)))]) := fun t kt => pre0 t (by
    refine XS.iload X0.here hx rfl (hb hby at_0) rfl ?_
    refine XS.sipush X0.here hx rfl (hb hby at_2) ?_
    refine XS.iand X0.here hx rfl (hb hby at_5) rfl ?_
    refine XS.i2c X0.here hx rfl (hb hby at_6) rfl ?_
    refine st1 _ ?_
    refine XS.astore X1.here hx rfl (hb hby at_10) rfl rfl (l' := #[.val (.long zA), .second, .val (.long zB), .second, .val (.int p2), .val (.int p3), .val (.int p4), .val (.ref x1_b3), .unset, .unset, .unset, .unset, .unset, .unset, .unset, .unset, .unset, .unset]) rfl ?_
    refine XS.lconst X1.here hx rfl (hb hby at_12) ?_
    refine XS.lloadN X1.here hx rfl (hb hby at_13) rfl ?_
    refine X1.ldc2Long hx hown0 (mvT hZ0 (wq hw 26 rfl)) (g := (mkF m 14 #[.val (.long zA), .second, .val (.long zB), .second, .val (.int p2), .val (.int p3), .val (.int p4), .val (.ref x1_b3), .unset, .unset, .unset, .unset, .unset, .unset, .unset, .unset, .unset, .unset] [(.long zA), (.long (1 : Int64))])) rfl (hb hby at_14) _ ?_
    refine XS.land X1.here hx rfl (hb hby at_17) rfl ?_
    refine st8 _ ?_
    refine XS.lstore X8.here hx rfl (hb hby at_21) rfl (l' := #[.val (.long zA), .second, .val (.long zB), .second, .val (.int p2), .val (.int p3), .val (.int p4), .val (.ref x1_b3), .val (.long (own_max (1 : Int64) (zA &&& (9223372036854775807 : Int64)))), .second, .unset, .unset, .unset, .unset, .unset, .unset, .unset, .unset]) rfl ?_
    refine XS.iload X8.here hx rfl (hb hby at_23) rfl ?_
    refine XS.iconst X8.here hx rfl (hb hby at_25) ?_
    refine XS.iand X8.here hx rfl (hb hby at_26) rfl ?_
    exact kt)
  by_cases hc27 : (p2 &&& (1 : Int32)) = (0 : Int32)
  · obtain ⟨_, _, ⟨T10, L10, k10, n10⟩, -, X10, ⟨Lc10, hQ10, l10, y10, z10⟩, st10⟩ := Jvm.LawKit.callS X8 hx (y := my_0) hown0 (mvT hZ0 (wq hw 27 rfl)) (mvT hZ0 (wq hw 28 rfl)) (mvT hZ0 (wq hw 29 rfl)) (mvT hZ0 (wq hw 30 rfl)) (by decide) (backOf (W := 0) (rm_max l Z a0 hw [] (1 : Int64) (zB &&& (9223372036854775807 : Int64)) T1.heap n0) hZ0 (wq hw 30 rfl) (wq hw 29 rfl) (by decide) (by decide)) (g := (mkF m 41 #[.val (.long zA), .second, .val (.long zB), .second, .val (.int p2), .val (.int p3), .val (.int p4), .val (.ref x1_b3), .val (.long (own_max (1 : Int64) (zA &&& (9223372036854775807 : Int64)))), .second, .unset, .unset, .unset, .unset, .unset, .unset, .unset, .unset] [(.long (zB &&& (9223372036854775807 : Int64))), (.long (1 : Int64))])) rfl (by rw [hml]; rfl) (argsL := [(.long (1 : Int64)), (.long (zB &&& (9223372036854775807 : Int64)))]) (rest := []) (lenOf pd_19 rfl) rfl (by show 2 * 0 + _ ≤ _; exact Nat.le_of_eq rfl) (hb hby at_41) (fun _ _ => ⟨rfl, e8, (by decide : 2 + 0 ≤ _), (by decide : 5 + 0 ≤ _)⟩)
    dsimp only [Pt.U, Pt.locs, Pt.cells, Pt.slots] at X10 l10 y10 z10 st10 hQ10
    have X10 := own_to X10 l10 y10 z10
    obtain ⟨rfl, N10q, e10⟩ := hQ10
    have N10 := Fr.app N8 N10q
    have gp11 : Go p e below s₁ f₀ T10 (mkF m 51 #[.val (.long zA), .second, .val (.long zB), .second, .val (.int p2), .val (.int p3), .val (.int p4), .val (.ref x1_b3), .val (.long (own_max (1 : Int64) (zA &&& (9223372036854775807 : Int64)))), .second, .val (.long (own_max (1 : Int64) (zB &&& (9223372036854775807 : Int64)))), .second, .unset, .unset, .unset, .unset, .unset, .unset] [(.int (lcmpW (own_max (1 : Int64) (zA &&& (9223372036854775807 : Int64))) (own_max (1 : Int64) (zB &&& (9223372036854775807 : Int64)))))]) := fun t kt => gp9 t (by
      refine XS.ifYes X8.here hx rfl (pc0 := 27) (pc' := 35) rfl (hb hby at_27) rfl ((if0 _ _).trans (teq hc27).1) (by decide) (by decide) ?_
      refine XS.lconst X8.here hx rfl (hb hby at_35) ?_
      refine XS.lloadN X8.here hx rfl (hb hby at_36) rfl ?_
      refine X8.ldc2Long hx hown0 (mvT hZ0 (wq hw 26 rfl)) (g := (mkF m 37 #[.val (.long zA), .second, .val (.long zB), .second, .val (.int p2), .val (.int p3), .val (.int p4), .val (.ref x1_b3), .val (.long (own_max (1 : Int64) (zA &&& (9223372036854775807 : Int64)))), .second, .unset, .unset, .unset, .unset, .unset, .unset, .unset, .unset] [(.long zB), (.long (1 : Int64))])) rfl (hb hby at_37) _ ?_
      refine XS.land X8.here hx rfl (hb hby at_40) rfl ?_
      refine st10 _ ?_
      refine XS.lstore X10.here hx rfl (hb hby at_44) rfl (l' := #[.val (.long zA), .second, .val (.long zB), .second, .val (.int p2), .val (.int p3), .val (.int p4), .val (.ref x1_b3), .val (.long (own_max (1 : Int64) (zA &&& (9223372036854775807 : Int64)))), .second, .val (.long (own_max (1 : Int64) (zB &&& (9223372036854775807 : Int64)))), .second, .unset, .unset, .unset, .unset, .unset, .unset]) rfl ?_
      refine XS.lload X10.here hx rfl (hb hby at_46) rfl ?_
      refine XS.lload X10.here hx rfl (hb hby at_48) rfl ?_
      refine XS.lcmp X10.here hx rfl (hb hby at_50) rfl ?_
      exact kt)
    by_cases hq : (own_max (1 : Int64) (zA &&& (9223372036854775807 : Int64))) = (own_max (1 : Int64) (zB &&& (9223372036854775807 : Int64)))
    · obtain ⟨T12, h12, X12, e12, E12, A12, D12, -, st12⟩ := newO X10 hx hZ0 hown0 (wq hw 31 rfl) (wq hw 32 rfl) (wq hw 33 rfl) e10 (g := (mkF m 61 #[.val (.long zA), .second, .val (.long zB), .second, .val (.int p2), .val (.int p3), .val (.int p4), .val (.ref x1_b3), .val (.long (own_max (1 : Int64) (zA &&& (9223372036854775807 : Int64)))), .second, .val (.long (own_max (1 : Int64) (zB &&& (9223372036854775807 : Int64)))), .second, .val (.int (1 : Int32)), .unset, .unset, .unset, .unset, .unset] [])) rfl (hb hby at_61) (by decide) (by decide)
      obtain ⟨b12, gb12⟩ : ∃ z, z = T1.heap.size := ⟨_, rfl⟩
      rw [← gb12] at A12 D12 st12
      have t13 : Exa Z T1.heap aE nOption_1 := ((hS.2.2.2.1.ext O0.2).keep K1)
      have ne14 : aE ≠ b12 := Nat.ne_of_lt (Nat.lt_of_lt_of_le t13.lt (Nat.le_of_eq gb12.symm))
      have ne15 : x1_b3 ≠ b12 := Nat.ne_of_lt (Nat.lt_of_lt_of_le q1_0.lt (Nat.le_of_eq gb12.symm))
      have ne16 : x1_x10_b1 ≠ b12 := Nat.ne_of_lt (Nat.lt_of_lt_of_le q1_3.lt (Nat.le_of_eq gb12.symm))
      have g17 : n0 ≤ b12 := Nat.le_trans (Nat.le_of_eq O6.1.symm) (Nat.le_trans O6.2.1 (Nat.le_of_eq gb12.symm))
      have O18 : Old Z n0 h12 := Old.ext O6 E12
      have hk19 := Nat.le_trans hk7 E12.1
      have f20 : Fld Z h12 b12 nKnownO_3 "runs" "Ljava/util/NavigableMap;" .null := D12 (Or.inr (wq hw 58 rfl)) (ty := (.object "java/util/NavigableMap")) (by decide)
      have f21 : Fld Z h12 b12 nKnownO_3 "identifier" "Ljava/lang/String;" .null := D12 (Or.inr (wq hw 60 rfl)) (ty := (.object nString_0)) (by decide)
      have f22 : Fld Z h12 b12 nKnownO_3 "named" nPredec_7 .null := D12 (Or.inl (wq hw 129 rfl)) (ty := (.object nPredec_4)) (by decide)
      have f23 : Fld Z h12 b12 nKnownO_3 "namedSeq" "J" (.long (0 : Int64)) := D12 (Or.inl (wq hw 155 rfl)) (ty := .long) (by decide)
      have f24 : Fld Z h12 b12 nKnownO_3 "alsoNamed" nList_8 .null := D12 (Or.inl (wq hw 157 rfl)) (ty := (.object "java/util/List")) (by decide)
      have t25 : Exa Z h12 x1_b3 nString_0 := (q1_0.ext E12)
      have t26 : Arv Z h12 x1_x10_b1 x1_x10_k1 .byte (1 : Int32) [(.int (nar .byte (((p4 &&& (255 : Int32)).toUInt32.toUInt16.toUInt32.toInt32).toInt8.toInt32)))] (.int (0 : Int32)) := (q1_3.ext E12)
      have t27 : Exa Z h12 aE nOption_1 := (t13.ext E12)
      obtain ⟨_, _, ⟨T28, L28, k28, n28⟩, -, X28, ⟨Lc28, hQ28, l28, y28, z28⟩, st28⟩ := X12.specialBack hx (y := my_33) rfl hown0 (mvT hZ0 (wq hw 34 rfl)) (mvT hZ0 (wq hw 35 rfl)) (mvT hZ0 (wq hw 36 rfl)) (by decide) (backOf (W := 1) (rc35_init l Z a0 hw [] cs aE hS b12 x1_b3 x1_x10_b1 x1_x10_k1 (nar .byte (((p4 &&& (255 : Int32)).toUInt32.toUInt16.toUInt32.toInt32).toInt8.toInt32)) h12 n0 O18 g2 g4 g17 A12 f24 f21 f22 f23 f20 t25 t26) hZ0 (wq hw 36 rfl) (wq hw 33 rfl) (by decide) (by decide)) (g := (mkF m 67 #[.val (.long zA), .second, .val (.long zB), .second, .val (.int p2), .val (.int p3), .val (.int p4), .val (.ref x1_b3), .val (.long (own_max (1 : Int64) (zA &&& (9223372036854775807 : Int64)))), .second, .val (.long (own_max (1 : Int64) (zB &&& (9223372036854775807 : Int64)))), .second, .val (.int (1 : Int32)), .unset, .unset, .unset, .unset, .unset] [(.ref x1_b3), (.ref b12), (.ref b12)])) rfl (by rw [hml]; rfl) (Steps.refl _) (a := b12) (argsL := [(.ref x1_b3)]) (rest := [(.ref b12)]) (lenOf pd_20 rfl) rfl (by show 2 * 0 + _ ≤ _; exact Nat.le_of_eq rfl) (hb hby at_67) (fun _ _ => ⟨rfl, e12, (by decide : 3 + 1 ≤ _), (by decide : 12 + 9 ≤ _)⟩)
      dsimp only [Pt.U, Pt.locs, Pt.cells, Pt.slots] at X28 l28 y28 z28 st28 hQ28
      have X28 := own_to X28 l28 y28 z28
      obtain ⟨x28_b2, rfl, N28q, K28, sz28_b2, q28_0, q28_1, q28_2, q28_3, q28_4, q28_5, q28_6, q28_7, q28_8, q28_9⟩ := hQ28
      have N28 := Fr.app N10 N28q
      have g29 : n0 ≤ x28_b2 := Nat.le_trans (Nat.le_of_eq O18.1.symm) (Nat.le_trans O18.2.1 sz28_b2)
      have ne30 : aE ≠ x28_b2 := Nat.ne_of_lt (Nat.lt_of_lt_of_le t27.lt sz28_b2)
      have ne31 : x1_b3 ≠ x28_b2 := Nat.ne_of_lt (Nat.lt_of_lt_of_le t25.lt sz28_b2)
      have ne32 : x1_x10_b1 ≠ x28_b2 := Nat.ne_of_lt (Nat.lt_of_lt_of_le t26.lt sz28_b2)
      have ne33 : b12 ≠ x28_b2 := Nat.ne_of_lt (Nat.lt_of_lt_of_le A12.lt sz28_b2)
      have O34 : Old Z n0 T28.heap := Old.keep O18 K28 (allS g17 all0)
      have hk35 := Nat.le_trans hk19 K28.1
      obtain ⟨T36, h36, X36, e36, E36, A36, D36, -, st36⟩ := newO X28 hx hZ0 hown0 (wq hw 61 rfl) (wq hw 62 rfl) (wq hw 63 rfl) rfl (g := (mkF m 72 #[.val (.long zA), .second, .val (.long zB), .second, .val (.int p2), .val (.int p3), .val (.int p4), .val (.ref x1_b3), .val (.long (own_max (1 : Int64) (zA &&& (9223372036854775807 : Int64)))), .second, .val (.long (own_max (1 : Int64) (zB &&& (9223372036854775807 : Int64)))), .second, .val (.int (1 : Int32)), .val (.ref b12), .unset, .unset, .unset, .unset] [])) rfl (hb hby at_72) (by decide) (by decide)
      obtain ⟨b36, gb36⟩ : ∃ z, z = T28.heap.size := ⟨_, rfl⟩
      rw [← gb36] at A36 D36 st36
      have t37 : Exa Z T28.heap aE nOption_1 := (t27.keep K28)
      have ne38 : aE ≠ b36 := Nat.ne_of_lt (Nat.lt_of_lt_of_le t37.lt (Nat.le_of_eq gb36.symm))
      have t39 : Exa Z T28.heap x1_b3 nString_0 := (t25.keep K28)
      have ne40 : x1_b3 ≠ b36 := Nat.ne_of_lt (Nat.lt_of_lt_of_le t39.lt (Nat.le_of_eq gb36.symm))
      have t41 : Arv Z T28.heap x1_x10_b1 x1_x10_k1 .byte (1 : Int32) [(.int (nar .byte (((p4 &&& (255 : Int32)).toUInt32.toUInt16.toUInt32.toInt32).toInt8.toInt32)))] (.int (0 : Int32)) := (t26.keep K28 (ninS ne16 nin0))
      have ne42 : x1_x10_b1 ≠ b36 := Nat.ne_of_lt (Nat.lt_of_lt_of_le t41.lt (Nat.le_of_eq gb36.symm))
      have ne43 : b12 ≠ b36 := Nat.ne_of_lt (Nat.lt_of_lt_of_le q28_0.lt (Nat.le_of_eq gb36.symm))
      have ne44 : x28_b2 ≠ b36 := Nat.ne_of_lt (Nat.lt_of_lt_of_le q28_6.lt (Nat.le_of_eq gb36.symm))
      have g45 : n0 ≤ b36 := Nat.le_trans (Nat.le_of_eq O34.1.symm) (Nat.le_trans O34.2.1 (Nat.le_of_eq gb36.symm))
      have O46 : Old Z n0 h36 := Old.ext O34 E36
      have hk47 := Nat.le_trans hk35 E36.1
      have f48 : Fld Z h36 b36 nPredec_4 "id" nMessag_5 .null := D36 (Or.inr (wq hw 120 rfl)) (ty := (.object nMessag_6)) (by decide)
      have f49 : Fld Z h36 b36 nPredec_4 "deadline" nOption_2 .null := D36 (Or.inr (wq hw 122 rfl)) (ty := (.object nOption_1)) (by decide)
      obtain ⟨T50, h50, X50, e50, E50, A50, D50, -, st50⟩ := newO X36 hx hZ0 hown0 (wq hw 64 rfl) (wq hw 65 rfl) (wq hw 66 rfl) e36 (g := (mkF m 76 #[.val (.long zA), .second, .val (.long zB), .second, .val (.int p2), .val (.int p3), .val (.int p4), .val (.ref x1_b3), .val (.long (own_max (1 : Int64) (zA &&& (9223372036854775807 : Int64)))), .second, .val (.long (own_max (1 : Int64) (zB &&& (9223372036854775807 : Int64)))), .second, .val (.int (1 : Int32)), .val (.ref b12), .unset, .unset, .unset, .unset] [(.ref b36), (.ref b36)])) rfl (hb hby at_76) (by decide) (by decide)
      obtain ⟨b50, gb50⟩ : ∃ z, z = h36.size := ⟨_, rfl⟩
      rw [← gb50] at A50 D50 st50
      have t51 : Exa Z h36 aE nOption_1 := (t37.ext E36)
      have ne52 : aE ≠ b50 := Nat.ne_of_lt (Nat.lt_of_lt_of_le t51.lt (Nat.le_of_eq gb50.symm))
      have t53 : Exa Z h36 x1_b3 nString_0 := (t39.ext E36)
      have ne54 : x1_b3 ≠ b50 := Nat.ne_of_lt (Nat.lt_of_lt_of_le t53.lt (Nat.le_of_eq gb50.symm))
      have t55 : Arv Z h36 x1_x10_b1 x1_x10_k1 .byte (1 : Int32) [(.int (nar .byte (((p4 &&& (255 : Int32)).toUInt32.toUInt16.toUInt32.toInt32).toInt8.toInt32)))] (.int (0 : Int32)) := (t41.ext E36)
      have ne56 : x1_x10_b1 ≠ b50 := Nat.ne_of_lt (Nat.lt_of_lt_of_le t55.lt (Nat.le_of_eq gb50.symm))
      have t57 : Exa Z h36 b12 nKnownO_3 := (q28_0.ext E36)
      have ne58 : b12 ≠ b50 := Nat.ne_of_lt (Nat.lt_of_lt_of_le t57.lt (Nat.le_of_eq gb50.symm))
      have t59 : Exa Z h36 x28_b2 nTreeMa_14 := (q28_6.ext E36)
      have ne60 : x28_b2 ≠ b50 := Nat.ne_of_lt (Nat.lt_of_lt_of_le t59.lt (Nat.le_of_eq gb50.symm))
      have ne61 : b36 ≠ b50 := Nat.ne_of_lt (Nat.lt_of_lt_of_le A36.lt (Nat.le_of_eq gb50.symm))
      have g62 : n0 ≤ b50 := Nat.le_trans (Nat.le_of_eq O46.1.symm) (Nat.le_trans O46.2.1 (Nat.le_of_eq gb50.symm))
      have O63 : Old Z n0 h50 := Old.ext O46 E50
      have hk64 := Nat.le_trans hk47 E50.1
      have f65 : Fld Z h50 b50 nMessag_6 "origin" "Ljava/lang/String;" .null := D50 (Or.inr (wq hw 94 rfl)) (ty := (.object nString_0)) (by decide)
      have f66 : Fld Z h50 b50 nMessag_6 "seq" "J" (.long (0 : Int64)) := D50 (Or.inr (wq hw 96 rfl)) (ty := .long) (by decide)
      have t67 : Exa Z h50 x1_b3 nString_0 := (t53.ext E50)
      have t68 : Fld Z h50 x1_b3 nString_0 "value" "[B" (.ref x1_x10_b1) := ((((q1_2.ext E12).keep K28 (ninS ne15 nin0)).ext E36).ext E50)
      have t69 : Arv Z h50 x1_x10_b1 x1_x10_k1 .byte (1 : Int32) [(.int (nar .byte (((p4 &&& (255 : Int32)).toUInt32.toUInt16.toUInt32.toInt32).toInt8.toInt32)))] (.int (0 : Int32)) := (t55.ext E50)
      obtain ⟨_, _, ⟨T70, L70, k70, n70⟩, -, X70, hSi70, hge70, ⟨Lc70, hQ70, l70, y70, z70⟩, st70⟩ := X50.specialBackS hx (y := my_38) rfl hown0 (mvT hZ0 (wq hw 67 rfl)) (mvT hZ0 (wq hw 68 rfl)) (mvT hZ0 (wq hw 69 rfl)) (by decide) (backOfS (W := 3) (rc38_init l Z a0 hw [] cs aE hS b50 x1_b3 (own_max (1 : Int64) (zA &&& (9223372036854775807 : Int64))) x1_x10_b1 x1_x10_k1 (nar .byte (((p4 &&& (255 : Int32)).toUInt32.toUInt16.toUInt32.toInt32).toInt8.toInt32)) h50 n0 O63 g2 g4 g62 A50 f65 f66 t67 t68 t69 (own_max_ge _)) hZ0 (wq hw 69 rfl) (wq hw 66 rfl) (by decide) (by decide)) (g := (mkF m 84 #[.val (.long zA), .second, .val (.long zB), .second, .val (.int p2), .val (.int p3), .val (.int p4), .val (.ref x1_b3), .val (.long (own_max (1 : Int64) (zA &&& (9223372036854775807 : Int64)))), .second, .val (.long (own_max (1 : Int64) (zB &&& (9223372036854775807 : Int64)))), .second, .val (.int (1 : Int32)), .val (.ref b12), .unset, .unset, .unset, .unset] [(.long (own_max (1 : Int64) (zA &&& (9223372036854775807 : Int64)))), (.ref x1_b3), (.ref b50), (.ref b50), (.ref b36), (.ref b36)])) rfl (by rw [hml]; rfl) (Steps.refl _) (a := b50) (argsL := [(.ref x1_b3), (.long (own_max (1 : Int64) (zA &&& (9223372036854775807 : Int64))))]) (rest := [(.ref b50), (.ref b36), (.ref b36)]) (lenOf pd_23 rfl) rfl (by show 2 * 0 + _ ≤ _; exact Nat.le_of_eq rfl) (hb hby at_84) (fun _ _ => ⟨rfl, e50, (by decide : 6 + 4 ≤ _), (by decide : 25 + 104 ≤ _)⟩)
      dsimp only [Pt.U, Pt.locs, Pt.cells, Pt.slots] at X70 l70 y70 z70 st70 hQ70 hSi70 hge70
      have X70 := own_to X70 l70 y70 z70
      obtain ⟨X70r, hS70, hZ70, hown70⟩ := rebS hS0 hk64 X70 hSi70 (by rw [← e50]; exact hge70) hZ0 hown0
      obtain ⟨rfl, N70q, K70, q70_0, q70_1, q70_2⟩ := hQ70
      have N70 := Fr.app N28 N70q
      have O71 : Old Z n0 T70.heap := Old.keep O63 K70 (allS g62 all0)
      obtain ⟨_, _, ⟨T72, L72, k72, n72⟩, -, X72, ⟨Lc72, hQ72, l72, y72, z72⟩, st72⟩ := Jvm.LawKit.callS X70r hx (y := my_39) hown70 (mvT hZ70 (wq hw 97 rfl)) (mvT hZ70 (wq hw 98 rfl)) (mvT hZ70 (wq hw 99 rfl)) (mvT hZ70 (wq hw 100 rfl)) (by decide) (backOf (W := 3) (rc43_empty l Z a0 hw [] cs aE hS  T70.heap n0 O71 ) hZ70 (wq hw 100 rfl) (wq hw 99 rfl) (by decide) (by decide)) (g := (mkF m 87 #[.val (.long zA), .second, .val (.long zB), .second, .val (.int p2), .val (.int p3), .val (.int p4), .val (.ref x1_b3), .val (.long (own_max (1 : Int64) (zA &&& (9223372036854775807 : Int64)))), .second, .val (.long (own_max (1 : Int64) (zB &&& (9223372036854775807 : Int64)))), .second, .val (.int (1 : Int32)), .val (.ref b12), .unset, .unset, .unset, .unset] [(.ref b50), (.ref b36), (.ref b36)])) rfl (by rw [hml]; rfl) (argsL := []) (rest := [(.ref b50), (.ref b36), (.ref b36)]) (lenOf pd_24 rfl) rfl (by show 2 * 0 + _ ≤ _; exact Nat.le_of_eq rfl) (hb hby at_87) (fun _ _ => ⟨rfl, rfl, (by decide : 10 + 0 ≤ _), (by decide : 129 + 0 ≤ _)⟩)
      dsimp only [Pt.U, Pt.locs, Pt.cells, Pt.slots] at X72 l72 y72 z72 st72 hQ72
      have X72 := own_to X72 l72 y72 z72
      obtain ⟨rfl, N72q, e72⟩ := hQ72
      have N72 := Fr.app N70 N72q
      have t73 : Exa Z T70.heap b36 nPredec_4 := ((A36.ext E50).keep K70)
      have t74 : Fld Z T70.heap b36 nPredec_4 "deadline" nOption_2 .null := ((f49.ext E50).keep K70 (ninS ne61 nin0))
      have t75 : Fld Z T70.heap b36 nPredec_4 "id" nMessag_5 .null := ((f48.ext E50).keep K70 (ninS ne61 nin0))
      have t76 : Exa Z T70.heap aE nOption_1 := ((t51.ext E50).keep K70)
      have t77 : Fld Z T70.heap aE nOption_1 "isPresent" "Z" (.int (0 : Int32)) := (((((((hS.2.2.2.2.ext O0.2).keep K1 nin0).ext E12).keep K28 (ninS ne14 nin0)).ext E36).ext E50).keep K70 (ninS ne52 nin0))
      obtain ⟨_, _, ⟨T78, L78, k78, n78⟩, -, X78, hSi78, hge78, ⟨Lc78, hQ78, l78, y78, z78⟩, st78⟩ := X72.specialBackS hx (y := my_42) rfl hown70 (mvT hZ70 (wq hw 102 rfl)) (mvT hZ70 (wq hw 103 rfl)) (mvT hZ70 (wq hw 104 rfl)) (by decide) (backOfS (W := 1) (rc44_init l Z a0 hw [] cs aE hS b36 b50 aE T70.heap n0 O71 g45 g62 t73 t74 t75 t76 t77) hZ70 (wq hw 104 rfl) (wq hw 63 rfl) (by decide) (by decide)) (g := (mkF m 90 #[.val (.long zA), .second, .val (.long zB), .second, .val (.int p2), .val (.int p3), .val (.int p4), .val (.ref x1_b3), .val (.long (own_max (1 : Int64) (zA &&& (9223372036854775807 : Int64)))), .second, .val (.long (own_max (1 : Int64) (zB &&& (9223372036854775807 : Int64)))), .second, .val (.int (1 : Int32)), .val (.ref b12), .unset, .unset, .unset, .unset] [(.ref aE), (.ref b50), (.ref b36), (.ref b36)])) rfl (by rw [hml]; rfl) (Steps.refl _) (a := b36) (argsL := [(.ref b50), (.ref aE)]) (rest := [(.ref b36)]) (lenOf pd_26 rfl) rfl (by show 2 * 0 + _ ≤ _; exact Nat.le_of_eq rfl) (hb hby at_90) (fun _ _ => ⟨rfl, e72, (by decide : 10 + 4 ≤ _), (by decide : 129 + 48 ≤ _)⟩)
      dsimp only [Pt.U, Pt.locs, Pt.cells, Pt.slots] at X78 l78 y78 z78 st78 hQ78 hSi78 hge78
      have X78 := own_to X78 l78 y78 z78
      obtain ⟨X78r, hS78, hZ78, hown78⟩ := rebS hS70 (Nat.le_refl _) X78 hSi78 (by rw [← e72]; exact hge78) hZ70 hown70
      obtain ⟨rfl, N78q, K78, q78_0, q78_1, q78_2⟩ := hQ78
      have N78 := Fr.app N72 N78q
      have O79 : Old Z n0 T78.heap := Old.keep O71 K78 (allS g45 all0)
      obtain ⟨T80, h80, X80, e80, E80, A80, D80, -, st80⟩ := newO X78r hx hZ78 hown78 (wq hw 61 rfl) (wq hw 62 rfl) (wq hw 63 rfl) rfl (g := (mkF m 95 #[.val (.long zA), .second, .val (.long zB), .second, .val (.int p2), .val (.int p3), .val (.int p4), .val (.ref x1_b3), .val (.long (own_max (1 : Int64) (zA &&& (9223372036854775807 : Int64)))), .second, .val (.long (own_max (1 : Int64) (zB &&& (9223372036854775807 : Int64)))), .second, .val (.int (1 : Int32)), .val (.ref b12), .val (.ref b36), .unset, .unset, .unset] [])) rfl (hb hby at_95) (by decide) (by decide)
      obtain ⟨b80, gb80⟩ : ∃ z, z = T78.heap.size := ⟨_, rfl⟩
      rw [← gb80] at A80 D80 st80
      have t81 : Exa Z T78.heap aE nOption_1 := (t76.keep K78)
      have ne82 : aE ≠ b80 := Nat.ne_of_lt (Nat.lt_of_lt_of_le t81.lt (Nat.le_of_eq gb80.symm))
      have t83 : Exa Z T78.heap x1_b3 nString_0 := ((t67.keep K70).keep K78)
      have ne84 : x1_b3 ≠ b80 := Nat.ne_of_lt (Nat.lt_of_lt_of_le t83.lt (Nat.le_of_eq gb80.symm))
      have t85 : Arv Z T78.heap x1_x10_b1 x1_x10_k1 .byte (1 : Int32) [(.int (nar .byte (((p4 &&& (255 : Int32)).toUInt32.toUInt16.toUInt32.toInt32).toInt8.toInt32)))] (.int (0 : Int32)) := ((t69.keep K70 (ninS ne56 nin0)).keep K78 (ninS ne42 nin0))
      have ne86 : x1_x10_b1 ≠ b80 := Nat.ne_of_lt (Nat.lt_of_lt_of_le t85.lt (Nat.le_of_eq gb80.symm))
      have t87 : Exa Z T78.heap b12 nKnownO_3 := (((t57.ext E50).keep K70).keep K78)
      have ne88 : b12 ≠ b80 := Nat.ne_of_lt (Nat.lt_of_lt_of_le t87.lt (Nat.le_of_eq gb80.symm))
      have t89 : Exa Z T78.heap x28_b2 nTreeMa_14 := (((t59.ext E50).keep K70).keep K78)
      have ne90 : x28_b2 ≠ b80 := Nat.ne_of_lt (Nat.lt_of_lt_of_le t89.lt (Nat.le_of_eq gb80.symm))
      have t91 : Exa Z T78.heap b50 nMessag_6 := (q70_0.keep K78)
      have ne92 : b50 ≠ b80 := Nat.ne_of_lt (Nat.lt_of_lt_of_le t91.lt (Nat.le_of_eq gb80.symm))
      have ne93 : b36 ≠ b80 := Nat.ne_of_lt (Nat.lt_of_lt_of_le q78_0.lt (Nat.le_of_eq gb80.symm))
      have g94 : n0 ≤ b80 := Nat.le_trans (Nat.le_of_eq O79.1.symm) (Nat.le_trans O79.2.1 (Nat.le_of_eq gb80.symm))
      have O95 : Old Z n0 h80 := Old.ext O79 E80
      have hk96 := Nat.le_trans (Nat.le_refl _) E80.1
      have f97 : Fld Z h80 b80 nPredec_4 "id" nMessag_5 .null := D80 (Or.inr (wq hw 120 rfl)) (ty := (.object nMessag_6)) (by decide)
      have f98 : Fld Z h80 b80 nPredec_4 "deadline" nOption_2 .null := D80 (Or.inr (wq hw 122 rfl)) (ty := (.object nOption_1)) (by decide)
      obtain ⟨T99, h99, X99, e99, E99, A99, D99, -, st99⟩ := newO X80 hx hZ78 hown78 (wq hw 64 rfl) (wq hw 65 rfl) (wq hw 66 rfl) e80 (g := (mkF m 99 #[.val (.long zA), .second, .val (.long zB), .second, .val (.int p2), .val (.int p3), .val (.int p4), .val (.ref x1_b3), .val (.long (own_max (1 : Int64) (zA &&& (9223372036854775807 : Int64)))), .second, .val (.long (own_max (1 : Int64) (zB &&& (9223372036854775807 : Int64)))), .second, .val (.int (1 : Int32)), .val (.ref b12), .val (.ref b36), .unset, .unset, .unset] [(.ref b80), (.ref b80)])) rfl (hb hby at_99) (by decide) (by decide)
      obtain ⟨b99, gb99⟩ : ∃ z, z = h80.size := ⟨_, rfl⟩
      rw [← gb99] at A99 D99 st99
      have t100 : Exa Z h80 aE nOption_1 := (t81.ext E80)
      have ne101 : aE ≠ b99 := Nat.ne_of_lt (Nat.lt_of_lt_of_le t100.lt (Nat.le_of_eq gb99.symm))
      have t102 : Exa Z h80 x1_b3 nString_0 := (t83.ext E80)
      have ne103 : x1_b3 ≠ b99 := Nat.ne_of_lt (Nat.lt_of_lt_of_le t102.lt (Nat.le_of_eq gb99.symm))
      have t104 : Arv Z h80 x1_x10_b1 x1_x10_k1 .byte (1 : Int32) [(.int (nar .byte (((p4 &&& (255 : Int32)).toUInt32.toUInt16.toUInt32.toInt32).toInt8.toInt32)))] (.int (0 : Int32)) := (t85.ext E80)
      have ne105 : x1_x10_b1 ≠ b99 := Nat.ne_of_lt (Nat.lt_of_lt_of_le t104.lt (Nat.le_of_eq gb99.symm))
      have t106 : Exa Z h80 b12 nKnownO_3 := (t87.ext E80)
      have ne107 : b12 ≠ b99 := Nat.ne_of_lt (Nat.lt_of_lt_of_le t106.lt (Nat.le_of_eq gb99.symm))
      have t108 : Exa Z h80 x28_b2 nTreeMa_14 := (t89.ext E80)
      have ne109 : x28_b2 ≠ b99 := Nat.ne_of_lt (Nat.lt_of_lt_of_le t108.lt (Nat.le_of_eq gb99.symm))
      have t110 : Exa Z h80 b50 nMessag_6 := (t91.ext E80)
      have ne111 : b50 ≠ b99 := Nat.ne_of_lt (Nat.lt_of_lt_of_le t110.lt (Nat.le_of_eq gb99.symm))
      have t112 : Exa Z h80 b36 nPredec_4 := (q78_0.ext E80)
      have ne113 : b36 ≠ b99 := Nat.ne_of_lt (Nat.lt_of_lt_of_le t112.lt (Nat.le_of_eq gb99.symm))
      have ne114 : b80 ≠ b99 := Nat.ne_of_lt (Nat.lt_of_lt_of_le A80.lt (Nat.le_of_eq gb99.symm))
      have g115 : n0 ≤ b99 := Nat.le_trans (Nat.le_of_eq O95.1.symm) (Nat.le_trans O95.2.1 (Nat.le_of_eq gb99.symm))
      have O116 : Old Z n0 h99 := Old.ext O95 E99
      have hk117 := Nat.le_trans hk96 E99.1
      have f118 : Fld Z h99 b99 nMessag_6 "origin" "Ljava/lang/String;" .null := D99 (Or.inr (wq hw 94 rfl)) (ty := (.object nString_0)) (by decide)
      have f119 : Fld Z h99 b99 nMessag_6 "seq" "J" (.long (0 : Int64)) := D99 (Or.inr (wq hw 96 rfl)) (ty := .long) (by decide)
      have t120 : Exa Z h99 x1_b3 nString_0 := (t102.ext E99)
      have t121 : Fld Z h99 x1_b3 nString_0 "value" "[B" (.ref x1_x10_b1) := ((((t68.keep K70 (ninS ne54 nin0)).keep K78 (ninS ne40 nin0)).ext E80).ext E99)
      have t122 : Arv Z h99 x1_x10_b1 x1_x10_k1 .byte (1 : Int32) [(.int (nar .byte (((p4 &&& (255 : Int32)).toUInt32.toUInt16.toUInt32.toInt32).toInt8.toInt32)))] (.int (0 : Int32)) := (t104.ext E99)
      obtain ⟨_, _, ⟨T123, L123, k123, n123⟩, -, X123, hSi123, hge123, ⟨Lc123, hQ123, l123, y123, z123⟩, st123⟩ := X99.specialBackS hx (y := my_38) rfl hown78 (mvT hZ78 (wq hw 67 rfl)) (mvT hZ78 (wq hw 68 rfl)) (mvT hZ78 (wq hw 69 rfl)) (by decide) (backOfS (W := 3) (rc38_init l Z a0 hw [] cs aE hS b99 x1_b3 (own_max (1 : Int64) (zB &&& (9223372036854775807 : Int64))) x1_x10_b1 x1_x10_k1 (nar .byte (((p4 &&& (255 : Int32)).toUInt32.toUInt16.toUInt32.toInt32).toInt8.toInt32)) h99 n0 O116 g2 g4 g115 A99 f118 f119 t120 t121 t122 (own_max_ge _)) hZ78 (wq hw 69 rfl) (wq hw 66 rfl) (by decide) (by decide)) (g := (mkF m 107 #[.val (.long zA), .second, .val (.long zB), .second, .val (.int p2), .val (.int p3), .val (.int p4), .val (.ref x1_b3), .val (.long (own_max (1 : Int64) (zA &&& (9223372036854775807 : Int64)))), .second, .val (.long (own_max (1 : Int64) (zB &&& (9223372036854775807 : Int64)))), .second, .val (.int (1 : Int32)), .val (.ref b12), .val (.ref b36), .unset, .unset, .unset] [(.long (own_max (1 : Int64) (zB &&& (9223372036854775807 : Int64)))), (.ref x1_b3), (.ref b99), (.ref b99), (.ref b80), (.ref b80)])) rfl (by rw [hml]; rfl) (Steps.refl _) (a := b99) (argsL := [(.ref x1_b3), (.long (own_max (1 : Int64) (zB &&& (9223372036854775807 : Int64))))]) (rest := [(.ref b99), (.ref b80), (.ref b80)]) (lenOf pd_23 rfl) rfl (by show 2 * 0 + _ ≤ _; exact Nat.le_of_eq rfl) (hb hby at_107) (fun _ _ => ⟨rfl, e99, (by decide : 16 + 4 ≤ _), (by decide : 181 + 104 ≤ _)⟩)
      dsimp only [Pt.U, Pt.locs, Pt.cells, Pt.slots] at X123 l123 y123 z123 st123 hQ123 hSi123 hge123
      have X123 := own_to X123 l123 y123 z123
      obtain ⟨X123r, hS123, hZ123, hown123⟩ := rebS hS78 hk117 X123 hSi123 (by rw [← e99]; exact hge123) hZ78 hown78
      obtain ⟨rfl, N123q, K123, q123_0, q123_1, q123_2⟩ := hQ123
      have N123 := Fr.app N78 N123q
      have O124 : Old Z n0 T123.heap := Old.keep O116 K123 (allS g115 all0)
      obtain ⟨_, _, ⟨T125, L125, k125, n125⟩, -, X125, ⟨Lc125, hQ125, l125, y125, z125⟩, st125⟩ := Jvm.LawKit.callS X123r hx (y := my_39) hown123 (mvT hZ123 (wq hw 97 rfl)) (mvT hZ123 (wq hw 98 rfl)) (mvT hZ123 (wq hw 99 rfl)) (mvT hZ123 (wq hw 100 rfl)) (by decide) (backOf (W := 3) (rc43_empty l Z a0 hw [] cs aE hS  T123.heap n0 O124 ) hZ123 (wq hw 100 rfl) (wq hw 99 rfl) (by decide) (by decide)) (g := (mkF m 110 #[.val (.long zA), .second, .val (.long zB), .second, .val (.int p2), .val (.int p3), .val (.int p4), .val (.ref x1_b3), .val (.long (own_max (1 : Int64) (zA &&& (9223372036854775807 : Int64)))), .second, .val (.long (own_max (1 : Int64) (zB &&& (9223372036854775807 : Int64)))), .second, .val (.int (1 : Int32)), .val (.ref b12), .val (.ref b36), .unset, .unset, .unset] [(.ref b99), (.ref b80), (.ref b80)])) rfl (by rw [hml]; rfl) (argsL := []) (rest := [(.ref b99), (.ref b80), (.ref b80)]) (lenOf pd_24 rfl) rfl (by show 2 * 0 + _ ≤ _; exact Nat.le_of_eq rfl) (hb hby at_110) (fun _ _ => ⟨rfl, rfl, (by decide : 20 + 0 ≤ _), (by decide : 285 + 0 ≤ _)⟩)
      dsimp only [Pt.U, Pt.locs, Pt.cells, Pt.slots] at X125 l125 y125 z125 st125 hQ125
      have X125 := own_to X125 l125 y125 z125
      obtain ⟨rfl, N125q, e125⟩ := hQ125
      have N125 := Fr.app N123 N125q
      have t126 : Exa Z T123.heap b80 nPredec_4 := ((A80.ext E99).keep K123)
      have t127 : Fld Z T123.heap b80 nPredec_4 "deadline" nOption_2 .null := ((f98.ext E99).keep K123 (ninS ne114 nin0))
      have t128 : Fld Z T123.heap b80 nPredec_4 "id" nMessag_5 .null := ((f97.ext E99).keep K123 (ninS ne114 nin0))
      have t129 : Exa Z T123.heap aE nOption_1 := ((t100.ext E99).keep K123)
      have t130 : Fld Z T123.heap aE nOption_1 "isPresent" "Z" (.int (0 : Int32)) := ((((t77.keep K78 (ninS ne38 nin0)).ext E80).ext E99).keep K123 (ninS ne101 nin0))
      obtain ⟨_, _, ⟨T131, L131, k131, n131⟩, -, X131, hSi131, hge131, ⟨Lc131, hQ131, l131, y131, z131⟩, st131⟩ := X125.specialBackS hx (y := my_42) rfl hown123 (mvT hZ123 (wq hw 102 rfl)) (mvT hZ123 (wq hw 103 rfl)) (mvT hZ123 (wq hw 104 rfl)) (by decide) (backOfS (W := 1) (rc44_init l Z a0 hw [] cs aE hS b80 b99 aE T123.heap n0 O124 g94 g115 t126 t127 t128 t129 t130) hZ123 (wq hw 104 rfl) (wq hw 63 rfl) (by decide) (by decide)) (g := (mkF m 113 #[.val (.long zA), .second, .val (.long zB), .second, .val (.int p2), .val (.int p3), .val (.int p4), .val (.ref x1_b3), .val (.long (own_max (1 : Int64) (zA &&& (9223372036854775807 : Int64)))), .second, .val (.long (own_max (1 : Int64) (zB &&& (9223372036854775807 : Int64)))), .second, .val (.int (1 : Int32)), .val (.ref b12), .val (.ref b36), .unset, .unset, .unset] [(.ref aE), (.ref b99), (.ref b80), (.ref b80)])) rfl (by rw [hml]; rfl) (Steps.refl _) (a := b80) (argsL := [(.ref b99), (.ref aE)]) (rest := [(.ref b80)]) (lenOf pd_26 rfl) rfl (by show 2 * 0 + _ ≤ _; exact Nat.le_of_eq rfl) (hb hby at_113) (fun _ _ => ⟨rfl, e125, (by decide : 20 + 4 ≤ _), (by decide : 285 + 48 ≤ _)⟩)
      dsimp only [Pt.U, Pt.locs, Pt.cells, Pt.slots] at X131 l131 y131 z131 st131 hQ131 hSi131 hge131
      have X131 := own_to X131 l131 y131 z131
      obtain ⟨X131r, hS131, hZ131, hown131⟩ := rebS hS123 (Nat.le_refl _) X131 hSi131 (by rw [← e125]; exact hge131) hZ123 hown123
      obtain ⟨rfl, N131q, K131, q131_0, q131_1, q131_2⟩ := hQ131
      have N131 := Fr.app N125 N131q
      have O132 : Old Z n0 T131.heap := Old.keep O124 K131 (allS g94 all0)
      have t133 : Exa Z T131.heap b12 nKnownO_3 := (((t106.ext E99).keep K123).keep K131)
      have t134 : Fld Z T131.heap b12 nKnownO_3 "named" nPredec_7 .null := ((((((((q28_3.ext E36).ext E50).keep K70 (ninS ne58 nin0)).keep K78 (ninS ne43 nin0)).ext E80).ext E99).keep K123 (ninS ne107 nin0)).keep K131 (ninS ne88 nin0))
      obtain ⟨cq135, kq135, q135a, q135b, q135c⟩ := isOf hZ131 rfl (t133)
      obtain ⟨_, _, ⟨T135, L135, k135, n135⟩, -, X135, ⟨Lc135, hQ135, l135, y135, z135⟩, st135⟩ := X131r.virtualBack hx (y := my_26) (z := my_26) hown131 (mvT hZ131 (wq hw 123 rfl)) (mvT hZ131 (wq hw 124 rfl)) (notFace_of_selects (args := #[]) (mvT hZ131 (wq hw 126 rfl))) (mvT hZ131 (wq hw 126 rfl)) (mvT hZ131 (wq hw 125 rfl)) (by decide) (backOf (W := 0) (rc48_isNamed l Z a0 hw [] cs aE hS b12 T131.heap n0 O132 g17 t134) hZ131 (wq hw 127 rfl) (wq hw 33 rfl) (by decide) (by decide)) q135a q135c (g := (mkF m 120 #[.val (.long zA), .second, .val (.long zB), .second, .val (.int p2), .val (.int p3), .val (.int p4), .val (.ref x1_b3), .val (.long (own_max (1 : Int64) (zA &&& (9223372036854775807 : Int64)))), .second, .val (.long (own_max (1 : Int64) (zB &&& (9223372036854775807 : Int64)))), .second, .val (.int (1 : Int32)), .val (.ref b12), .val (.ref b36), .val (.ref b80), .unset, .unset] [(.ref b12)])) rfl (by rw [hml]; rfl) (Steps.refl _) (argsL := []) (rest := []) (lenOf pd_14 rfl) rfl (by show 2 * 0 + _ ≤ _; exact Nat.le_of_eq rfl) (hb hby at_120) (fun _ _ => ⟨rfl, rfl, (by decide : 24 + 0 ≤ _), (by decide : 333 + 0 ≤ _)⟩)
      dsimp only [Pt.U, Pt.locs, Pt.cells, Pt.slots] at X135 l135 y135 z135 st135 hQ135
      have X135 := own_to X135 l135 y135 z135
      obtain ⟨rfl, N135q, e135⟩ := hQ135
      have N135 := Fr.app N131 N135q
      have t136 : Exa Z T131.heap b36 nPredec_4 := (((t112.ext E99).keep K123).keep K131)
      have t137 : Fld Z T131.heap b36 nPredec_4 "id" nMessag_5 (.ref b50) := ((((q78_2.ext E80).ext E99).keep K123 (ninS ne113 nin0)).keep K131 (ninS ne93 nin0))
      have t138 : Exa Z T131.heap b50 nMessag_6 := (((t110.ext E99).keep K123).keep K131)
      have t139 : Fld Z T131.heap b50 nMessag_6 "seq" "J" (.long (own_max (1 : Int64) (zA &&& (9223372036854775807 : Int64)))) := (((((q70_2.keep K78 (ninS (Ne.symm ne61) nin0)).ext E80).ext E99).keep K123 (ninS ne111 nin0)).keep K131 (ninS ne92 nin0))
      have t140 : Exa Z T131.heap b99 nMessag_6 := (q123_0.keep K131)
      have t141 : Fld Z T131.heap b99 nMessag_6 "seq" "J" (.long (own_max (1 : Int64) (zB &&& (9223372036854775807 : Int64)))) := (q123_2.keep K131 (ninS (Ne.symm ne114) nin0))
      have t142 : Fld Z T131.heap b12 nKnownO_3 "namedSeq" "J" (.long (0 : Int64)) := ((((((((q28_4.ext E36).ext E50).keep K70 (ninS ne58 nin0)).keep K78 (ninS ne43 nin0)).ext E80).ext E99).keep K123 (ninS ne107 nin0)).keep K131 (ninS ne88 nin0))
      have t143 : Fld Z T131.heap b12 nKnownO_3 "alsoNamed" nList_8 .null := ((((((((q28_1.ext E36).ext E50).keep K70 (ninS ne58 nin0)).keep K78 (ninS ne43 nin0)).ext E80).ext E99).keep K123 (ninS ne107 nin0)).keep K131 (ninS ne88 nin0))
      have inv144 : InvE Z n0 T131.heap b12 b36 b50 (own_max (1 : Int64) (zA &&& (9223372036854775807 : Int64))) b80 b99 (own_max (1 : Int64) (zB &&& (9223372036854775807 : Int64))) (0 : Int32) := ⟨⟨t133, g17, t136, t137, t138, t139, q131_0, q131_2, t140, t141⟩, Or.inl ⟨rfl, ⟨_, t134, t142, t143⟩⟩⟩
      obtain ⟨_, _, ⟨T145, L145, k145, n145⟩, -, X145, ⟨Lc145, hQ145, l145, y145, z145⟩, st145⟩ := Jvm.LawKit.callS X135 hx (y := my_4) hown131 (mvT hZ131 (wq hw 130 rfl)) (mvT hZ131 (wq hw 131 rfl)) (mvT hZ131 (wq hw 132 rfl)) (mvT hZ131 (wq hw 133 rfl)) (by decide) (backOf (W := 0) (rm_stepE l Z a0 hw [] cs aE hS b12 b36 b50 (own_max (1 : Int64) (zA &&& (9223372036854775807 : Int64))) b80 b99 (own_max (1 : Int64) (zB &&& (9223372036854775807 : Int64))) (p3 &&& (3 : Int32)) (0 : Int32) T131.heap n0 O132 hq (own_c3 _) inv144) hZ131 (wq hw 133 rfl) (wq hw 132 rfl) (by decide) (by decide)) (g := (mkF m 154 #[.val (.long zA), .second, .val (.long zB), .second, .val (.int p2), .val (.int p3), .val (.int p4), .val (.ref x1_b3), .val (.long (own_max (1 : Int64) (zA &&& (9223372036854775807 : Int64)))), .second, .val (.long (own_max (1 : Int64) (zB &&& (9223372036854775807 : Int64)))), .second, .val (.int (1 : Int32)), .val (.ref b12), .val (.ref b36), .val (.ref b80), .val (.int (1 : Int32)), .val (.int (0 : Int32))] [(.int (0 : Int32)), (.int (1 : Int32)), (.long (own_max (1 : Int64) (zB &&& (9223372036854775807 : Int64)))), (.long (own_max (1 : Int64) (zA &&& (9223372036854775807 : Int64)))), (.ref b80), (.ref b36), (.int (p3 &&& (3 : Int32))), (.ref b12)])) rfl (by rw [hml]; rfl) (argsL := [(.ref b12), (.int (p3 &&& (3 : Int32))), (.ref b36), (.ref b80), (.long (own_max (1 : Int64) (zA &&& (9223372036854775807 : Int64)))), (.long (own_max (1 : Int64) (zB &&& (9223372036854775807 : Int64)))), (.int (1 : Int32)), (.int (0 : Int32))]) (rest := []) (lenOf pd_27 rfl) rfl (by show 2 * 0 + _ ≤ _; exact Nat.le_of_eq rfl) (hb hby at_154) (fun _ _ => ⟨rfl, e135, (by decide : 24 + 2 ≤ _), (by decide : 333 + 4 ≤ _)⟩)
      dsimp only [Pt.U, Pt.locs, Pt.cells, Pt.slots] at X145 l145 y145 z145 st145 hQ145
      have X145 := own_to X145 l145 y145 z145
      obtain ⟨st145', rfl, N145q, siz145, OI145, inv145⟩ := hQ145
      have N145 := Fr.app N135 N145q
      have hk146 := Nat.le_trans (Nat.le_refl _) siz145
      obtain ⟨cq147, kq147, q147a, q147b, q147c⟩ := isOf hZ131 rfl (inv145.1.1)
      obtain ⟨_, _, ⟨T147, L147, k147, n147⟩, -, X147, ⟨Lc147, hQ147, l147, y147, z147⟩, st147⟩ := X145.virtualBack hx (y := my_26) (z := my_26) hown131 (mvT hZ131 (wq hw 123 rfl)) (mvT hZ131 (wq hw 124 rfl)) (notFace_of_selects (args := #[]) (mvT hZ131 (wq hw 126 rfl))) (mvT hZ131 (wq hw 126 rfl)) (mvT hZ131 (wq hw 125 rfl)) (by decide) (backOf (W := 1) (rm_isnE l Z a0 hw [] b12 b36 b50 (own_max (1 : Int64) (zA &&& (9223372036854775807 : Int64))) b80 b99 (own_max (1 : Int64) (zB &&& (9223372036854775807 : Int64))) (st145') T145.heap n0 inv145) hZ131 (wq hw 127 rfl) (wq hw 33 rfl) (by decide) (by decide)) q147a q147c (g := (mkF m 163 #[.val (.long zA), .second, .val (.long zB), .second, .val (.int p2), .val (.int p3), .val (.int p4), .val (.ref x1_b3), .val (.long (own_max (1 : Int64) (zA &&& (9223372036854775807 : Int64)))), .second, .val (.long (own_max (1 : Int64) (zB &&& (9223372036854775807 : Int64)))), .second, .val (.int (1 : Int32)), .val (.ref b12), .val (.ref b36), .val (.ref b80), .val (.int (1 : Int32)), .val (.int st145')] [(.ref b12), (.int (1 : Int32))])) rfl (by rw [hml]; rfl) (Steps.refl _) (argsL := []) (rest := [(.int (1 : Int32))]) (lenOf pd_14 rfl) rfl (by show 2 * 0 + _ ≤ _; exact Nat.le_of_eq rfl) (hb hby at_163) (fun _ _ => ⟨rfl, rfl, (by decide : 26 + 0 ≤ _), (by decide : 337 + 0 ≤ _)⟩)
      dsimp only [Pt.U, Pt.locs, Pt.cells, Pt.slots] at X147 l147 y147 z147 st147 hQ147
      have X147 := own_to X147 l147 y147 z147
      obtain ⟨rfl, N147q, e147⟩ := hQ147
      have N147 := Fr.app N145 N147q
      have mg148 : ∀ t, Steps p.tables e below (T147.setTop (mkF m 185 #[.val (.long zA), .second, .val (.long zB), .second, .val (.int p2), .val (.int p3), .val (.int p4), .val (.ref x1_b3), .val (.long (own_max (1 : Int64) (zA &&& (9223372036854775807 : Int64)))), .second, .val (.long (own_max (1 : Int64) (zB &&& (9223372036854775807 : Int64)))), .second, .val (.int (1 : Int32)), .val (.ref b12), .val (.ref b36), .val (.ref b80), .val (.int (1 : Int32)), .val (.int st145')] [(.int (1 : Int32))])) t → Steps p.tables e below (T147.setTop (mkF m 168 #[.val (.long zA), .second, .val (.long zB), .second, .val (.int p2), .val (.int p3), .val (.int p4), .val (.ref x1_b3), .val (.long (own_max (1 : Int64) (zA &&& (9223372036854775807 : Int64)))), .second, .val (.long (own_max (1 : Int64) (zB &&& (9223372036854775807 : Int64)))), .second, .val (.int (1 : Int32)), .val (.ref b12), .val (.ref b36), .val (.ref b80), .val (.int (1 : Int32)), .val (.int st145')] [(.int st145'), (.int (own_b (st145'))), (.int (1 : Int32))])) t := fun t kt => by
        by_cases hc168 : st145' = (0 : Int32)
        · refine XS.ifYes X147.here hx rfl (pc0 := 168) (pc' := 175) rfl (hb hby at_168) rfl ((if0 _ _).trans (teq hc168).1) (by decide) (by decide) ?_
          refine XS.iconst X147.here hx rfl (hb hby at_175) ?_
          refine XS.icmpNo X147.here hx rfl (hb hby at_176) rfl (teq (own_b0 hc168)).2 ?_
          refine XS.iconst X147.here hx rfl (hb hby at_179) ?_
          refine XS.goto X147.here hx rfl (pc0 := 180) (pc' := 184) rfl (hb hby at_180) (by decide) (by decide) ?_
          refine XS.iand X147.here hx rfl (hb hby at_184) rfl ?_
          show Steps p.tables e below (T147.setTop (mkF m 185 #[.val (.long zA), .second, .val (.long zB), .second, .val (.int p2), .val (.int p3), .val (.int p4), .val (.ref x1_b3), .val (.long (own_max (1 : Int64) (zA &&& (9223372036854775807 : Int64)))), .second, .val (.long (own_max (1 : Int64) (zB &&& (9223372036854775807 : Int64)))), .second, .val (.int (1 : Int32)), .val (.ref b12), .val (.ref b36), .val (.ref b80), .val (.int (1 : Int32)), .val (.int st145')] [(.int (1 : Int32))])) _
          exact kt
        · refine XS.ifNo X147.here hx rfl (hb hby at_168) rfl ((if0 _ _).trans (feq hc168).1) ?_
          refine XS.iconst X147.here hx rfl (hb hby at_171) ?_
          refine XS.goto X147.here hx rfl (pc0 := 172) (pc' := 176) rfl (hb hby at_172) (by decide) (by decide) ?_
          refine XS.icmpNo X147.here hx rfl (hb hby at_176) rfl (teq (own_b1 hc168)).2 ?_
          refine XS.iconst X147.here hx rfl (hb hby at_179) ?_
          refine XS.goto X147.here hx rfl (pc0 := 180) (pc' := 184) rfl (hb hby at_180) (by decide) (by decide) ?_
          refine XS.iand X147.here hx rfl (hb hby at_184) rfl ?_
          show Steps p.tables e below (T147.setTop (mkF m 185 #[.val (.long zA), .second, .val (.long zB), .second, .val (.int p2), .val (.int p3), .val (.int p4), .val (.ref x1_b3), .val (.long (own_max (1 : Int64) (zA &&& (9223372036854775807 : Int64)))), .second, .val (.long (own_max (1 : Int64) (zB &&& (9223372036854775807 : Int64)))), .second, .val (.int (1 : Int32)), .val (.ref b12), .val (.ref b36), .val (.ref b80), .val (.int (1 : Int32)), .val (.int st145')] [(.int (1 : Int32))])) _
          exact kt
      obtain ⟨_, _, ⟨T149, L149, k149, n149⟩, -, X149, ⟨Lc149, hQ149, l149, y149, z149⟩, st149⟩ := Jvm.LawKit.callS X147 hx (y := my_4) hown131 (mvT hZ131 (wq hw 130 rfl)) (mvT hZ131 (wq hw 131 rfl)) (mvT hZ131 (wq hw 132 rfl)) (mvT hZ131 (wq hw 133 rfl)) (by decide) (backOf (W := 0) (rm_stepE l Z a0 hw [] cs aE hS b12 b36 b50 (own_max (1 : Int64) (zA &&& (9223372036854775807 : Int64))) b80 b99 (own_max (1 : Int64) (zB &&& (9223372036854775807 : Int64))) ((p3 >>> ((2 : Int32) &&& 31)) &&& (3 : Int32)) (st145') T145.heap n0 OI145 hq (own_c3 _) inv145) hZ131 (wq hw 133 rfl) (wq hw 132 rfl) (by decide) (by decide)) (g := (mkF m 207 #[.val (.long zA), .second, .val (.long zB), .second, .val (.int p2), .val (.int p3), .val (.int p4), .val (.ref x1_b3), .val (.long (own_max (1 : Int64) (zA &&& (9223372036854775807 : Int64)))), .second, .val (.long (own_max (1 : Int64) (zB &&& (9223372036854775807 : Int64)))), .second, .val (.int (1 : Int32)), .val (.ref b12), .val (.ref b36), .val (.ref b80), .val (.int (1 : Int32)), .val (.int st145')] [(.int st145'), (.int (1 : Int32)), (.long (own_max (1 : Int64) (zB &&& (9223372036854775807 : Int64)))), (.long (own_max (1 : Int64) (zA &&& (9223372036854775807 : Int64)))), (.ref b80), (.ref b36), (.int ((p3 >>> ((2 : Int32) &&& 31)) &&& (3 : Int32))), (.ref b12)])) rfl (by rw [hml]; rfl) (argsL := [(.ref b12), (.int ((p3 >>> ((2 : Int32) &&& 31)) &&& (3 : Int32))), (.ref b36), (.ref b80), (.long (own_max (1 : Int64) (zA &&& (9223372036854775807 : Int64)))), (.long (own_max (1 : Int64) (zB &&& (9223372036854775807 : Int64)))), (.int (1 : Int32)), (.int st145')]) (rest := []) (lenOf pd_27 rfl) rfl (by show 2 * 0 + _ ≤ _; exact Nat.le_of_eq rfl) (hb hby at_207) (fun _ _ => ⟨rfl, e147, (by decide : 26 + 2 ≤ _), (by decide : 337 + 4 ≤ _)⟩)
      dsimp only [Pt.U, Pt.locs, Pt.cells, Pt.slots] at X149 l149 y149 z149 st149 hQ149
      have X149 := own_to X149 l149 y149 z149
      obtain ⟨st149', rfl, N149q, siz149, OI149, inv149⟩ := hQ149
      have N149 := Fr.app N147 N149q
      have hk150 := Nat.le_trans hk146 siz149
      obtain ⟨cq151, kq151, q151a, q151b, q151c⟩ := isOf hZ131 rfl (inv149.1.1)
      obtain ⟨_, _, ⟨T151, L151, k151, n151⟩, -, X151, ⟨Lc151, hQ151, l151, y151, z151⟩, st151⟩ := X149.virtualBack hx (y := my_26) (z := my_26) hown131 (mvT hZ131 (wq hw 123 rfl)) (mvT hZ131 (wq hw 124 rfl)) (notFace_of_selects (args := #[]) (mvT hZ131 (wq hw 126 rfl))) (mvT hZ131 (wq hw 126 rfl)) (mvT hZ131 (wq hw 125 rfl)) (by decide) (backOf (W := 1) (rm_isnE l Z a0 hw [] b12 b36 b50 (own_max (1 : Int64) (zA &&& (9223372036854775807 : Int64))) b80 b99 (own_max (1 : Int64) (zB &&& (9223372036854775807 : Int64))) (st149') T149.heap n0 inv149) hZ131 (wq hw 127 rfl) (wq hw 33 rfl) (by decide) (by decide)) q151a q151c (g := (mkF m 216 #[.val (.long zA), .second, .val (.long zB), .second, .val (.int p2), .val (.int p3), .val (.int p4), .val (.ref x1_b3), .val (.long (own_max (1 : Int64) (zA &&& (9223372036854775807 : Int64)))), .second, .val (.long (own_max (1 : Int64) (zB &&& (9223372036854775807 : Int64)))), .second, .val (.int (1 : Int32)), .val (.ref b12), .val (.ref b36), .val (.ref b80), .val (.int (1 : Int32)), .val (.int st149')] [(.ref b12), (.int (1 : Int32))])) rfl (by rw [hml]; rfl) (Steps.refl _) (argsL := []) (rest := [(.int (1 : Int32))]) (lenOf pd_14 rfl) rfl (by show 2 * 0 + _ ≤ _; exact Nat.le_of_eq rfl) (hb hby at_216) (fun _ _ => ⟨rfl, rfl, (by decide : 28 + 0 ≤ _), (by decide : 341 + 0 ≤ _)⟩)
      dsimp only [Pt.U, Pt.locs, Pt.cells, Pt.slots] at X151 l151 y151 z151 st151 hQ151
      have X151 := own_to X151 l151 y151 z151
      obtain ⟨rfl, N151q, e151⟩ := hQ151
      have N151 := Fr.app N149 N151q
      have mg152 : ∀ t, Steps p.tables e below (T151.setTop (mkF m 238 #[.val (.long zA), .second, .val (.long zB), .second, .val (.int p2), .val (.int p3), .val (.int p4), .val (.ref x1_b3), .val (.long (own_max (1 : Int64) (zA &&& (9223372036854775807 : Int64)))), .second, .val (.long (own_max (1 : Int64) (zB &&& (9223372036854775807 : Int64)))), .second, .val (.int (1 : Int32)), .val (.ref b12), .val (.ref b36), .val (.ref b80), .val (.int (1 : Int32)), .val (.int st149')] [(.int (1 : Int32))])) t → Steps p.tables e below (T151.setTop (mkF m 221 #[.val (.long zA), .second, .val (.long zB), .second, .val (.int p2), .val (.int p3), .val (.int p4), .val (.ref x1_b3), .val (.long (own_max (1 : Int64) (zA &&& (9223372036854775807 : Int64)))), .second, .val (.long (own_max (1 : Int64) (zB &&& (9223372036854775807 : Int64)))), .second, .val (.int (1 : Int32)), .val (.ref b12), .val (.ref b36), .val (.ref b80), .val (.int (1 : Int32)), .val (.int st149')] [(.int st149'), (.int (own_b (st149'))), (.int (1 : Int32))])) t := fun t kt => by
        by_cases hc221 : st149' = (0 : Int32)
        · refine XS.ifYes X151.here hx rfl (pc0 := 221) (pc' := 228) rfl (hb hby at_221) rfl ((if0 _ _).trans (teq hc221).1) (by decide) (by decide) ?_
          refine XS.iconst X151.here hx rfl (hb hby at_228) ?_
          refine XS.icmpNo X151.here hx rfl (hb hby at_229) rfl (teq (own_b0 hc221)).2 ?_
          refine XS.iconst X151.here hx rfl (hb hby at_232) ?_
          refine XS.goto X151.here hx rfl (pc0 := 233) (pc' := 237) rfl (hb hby at_233) (by decide) (by decide) ?_
          refine XS.iand X151.here hx rfl (hb hby at_237) rfl ?_
          show Steps p.tables e below (T151.setTop (mkF m 238 #[.val (.long zA), .second, .val (.long zB), .second, .val (.int p2), .val (.int p3), .val (.int p4), .val (.ref x1_b3), .val (.long (own_max (1 : Int64) (zA &&& (9223372036854775807 : Int64)))), .second, .val (.long (own_max (1 : Int64) (zB &&& (9223372036854775807 : Int64)))), .second, .val (.int (1 : Int32)), .val (.ref b12), .val (.ref b36), .val (.ref b80), .val (.int (1 : Int32)), .val (.int st149')] [(.int (1 : Int32))])) _
          exact kt
        · refine XS.ifNo X151.here hx rfl (hb hby at_221) rfl ((if0 _ _).trans (feq hc221).1) ?_
          refine XS.iconst X151.here hx rfl (hb hby at_224) ?_
          refine XS.goto X151.here hx rfl (pc0 := 225) (pc' := 229) rfl (hb hby at_225) (by decide) (by decide) ?_
          refine XS.icmpNo X151.here hx rfl (hb hby at_229) rfl (teq (own_b1 hc221)).2 ?_
          refine XS.iconst X151.here hx rfl (hb hby at_232) ?_
          refine XS.goto X151.here hx rfl (pc0 := 233) (pc' := 237) rfl (hb hby at_233) (by decide) (by decide) ?_
          refine XS.iand X151.here hx rfl (hb hby at_237) rfl ?_
          show Steps p.tables e below (T151.setTop (mkF m 238 #[.val (.long zA), .second, .val (.long zB), .second, .val (.int p2), .val (.int p3), .val (.int p4), .val (.ref x1_b3), .val (.long (own_max (1 : Int64) (zA &&& (9223372036854775807 : Int64)))), .second, .val (.long (own_max (1 : Int64) (zB &&& (9223372036854775807 : Int64)))), .second, .val (.int (1 : Int32)), .val (.ref b12), .val (.ref b36), .val (.ref b80), .val (.int (1 : Int32)), .val (.int st149')] [(.int (1 : Int32))])) _
          exact kt
      obtain ⟨_, _, ⟨T153, L153, k153, n153⟩, -, X153, ⟨Lc153, hQ153, l153, y153, z153⟩, st153⟩ := Jvm.LawKit.callS X151 hx (y := my_4) hown131 (mvT hZ131 (wq hw 130 rfl)) (mvT hZ131 (wq hw 131 rfl)) (mvT hZ131 (wq hw 132 rfl)) (mvT hZ131 (wq hw 133 rfl)) (by decide) (backOf (W := 0) (rm_stepE l Z a0 hw [] cs aE hS b12 b36 b50 (own_max (1 : Int64) (zA &&& (9223372036854775807 : Int64))) b80 b99 (own_max (1 : Int64) (zB &&& (9223372036854775807 : Int64))) ((p3 >>> ((4 : Int32) &&& 31)) &&& (3 : Int32)) (st149') T149.heap n0 OI149 hq (own_c3 _) inv149) hZ131 (wq hw 133 rfl) (wq hw 132 rfl) (by decide) (by decide)) (g := (mkF m 260 #[.val (.long zA), .second, .val (.long zB), .second, .val (.int p2), .val (.int p3), .val (.int p4), .val (.ref x1_b3), .val (.long (own_max (1 : Int64) (zA &&& (9223372036854775807 : Int64)))), .second, .val (.long (own_max (1 : Int64) (zB &&& (9223372036854775807 : Int64)))), .second, .val (.int (1 : Int32)), .val (.ref b12), .val (.ref b36), .val (.ref b80), .val (.int (1 : Int32)), .val (.int st149')] [(.int st149'), (.int (1 : Int32)), (.long (own_max (1 : Int64) (zB &&& (9223372036854775807 : Int64)))), (.long (own_max (1 : Int64) (zA &&& (9223372036854775807 : Int64)))), (.ref b80), (.ref b36), (.int ((p3 >>> ((4 : Int32) &&& 31)) &&& (3 : Int32))), (.ref b12)])) rfl (by rw [hml]; rfl) (argsL := [(.ref b12), (.int ((p3 >>> ((4 : Int32) &&& 31)) &&& (3 : Int32))), (.ref b36), (.ref b80), (.long (own_max (1 : Int64) (zA &&& (9223372036854775807 : Int64)))), (.long (own_max (1 : Int64) (zB &&& (9223372036854775807 : Int64)))), (.int (1 : Int32)), (.int st149')]) (rest := []) (lenOf pd_27 rfl) rfl (by show 2 * 0 + _ ≤ _; exact Nat.le_of_eq rfl) (hb hby at_260) (fun _ _ => ⟨rfl, e151, (by decide : 28 + 2 ≤ _), (by decide : 341 + 4 ≤ _)⟩)
      dsimp only [Pt.U, Pt.locs, Pt.cells, Pt.slots] at X153 l153 y153 z153 st153 hQ153
      have X153 := own_to X153 l153 y153 z153
      obtain ⟨st153', rfl, N153q, siz153, OI153, inv153⟩ := hQ153
      have N153 := Fr.app N151 N153q
      have hk154 := Nat.le_trans hk150 siz153
      obtain ⟨cq155, kq155, q155a, q155b, q155c⟩ := isOf hZ131 rfl (inv153.1.1)
      obtain ⟨_, _, ⟨T155, L155, k155, n155⟩, -, X155, ⟨Lc155, hQ155, l155, y155, z155⟩, st155⟩ := X153.virtualBack hx (y := my_26) (z := my_26) hown131 (mvT hZ131 (wq hw 123 rfl)) (mvT hZ131 (wq hw 124 rfl)) (notFace_of_selects (args := #[]) (mvT hZ131 (wq hw 126 rfl))) (mvT hZ131 (wq hw 126 rfl)) (mvT hZ131 (wq hw 125 rfl)) (by decide) (backOf (W := 1) (rm_isnE l Z a0 hw [] b12 b36 b50 (own_max (1 : Int64) (zA &&& (9223372036854775807 : Int64))) b80 b99 (own_max (1 : Int64) (zB &&& (9223372036854775807 : Int64))) (st153') T153.heap n0 inv153) hZ131 (wq hw 127 rfl) (wq hw 33 rfl) (by decide) (by decide)) q155a q155c (g := (mkF m 269 #[.val (.long zA), .second, .val (.long zB), .second, .val (.int p2), .val (.int p3), .val (.int p4), .val (.ref x1_b3), .val (.long (own_max (1 : Int64) (zA &&& (9223372036854775807 : Int64)))), .second, .val (.long (own_max (1 : Int64) (zB &&& (9223372036854775807 : Int64)))), .second, .val (.int (1 : Int32)), .val (.ref b12), .val (.ref b36), .val (.ref b80), .val (.int (1 : Int32)), .val (.int st153')] [(.ref b12), (.int (1 : Int32))])) rfl (by rw [hml]; rfl) (Steps.refl _) (argsL := []) (rest := [(.int (1 : Int32))]) (lenOf pd_14 rfl) rfl (by show 2 * 0 + _ ≤ _; exact Nat.le_of_eq rfl) (hb hby at_269) (fun _ _ => ⟨rfl, rfl, (by decide : 30 + 0 ≤ _), (by decide : 345 + 0 ≤ _)⟩)
      dsimp only [Pt.U, Pt.locs, Pt.cells, Pt.slots] at X155 l155 y155 z155 st155 hQ155
      have X155 := own_to X155 l155 y155 z155
      obtain ⟨rfl, N155q, e155⟩ := hQ155
      have N155 := Fr.app N153 N155q
      have mg156 : ∀ t, Steps p.tables e below (T155.setTop (mkF m 291 #[.val (.long zA), .second, .val (.long zB), .second, .val (.int p2), .val (.int p3), .val (.int p4), .val (.ref x1_b3), .val (.long (own_max (1 : Int64) (zA &&& (9223372036854775807 : Int64)))), .second, .val (.long (own_max (1 : Int64) (zB &&& (9223372036854775807 : Int64)))), .second, .val (.int (1 : Int32)), .val (.ref b12), .val (.ref b36), .val (.ref b80), .val (.int (1 : Int32)), .val (.int st153')] [(.int (1 : Int32))])) t → Steps p.tables e below (T155.setTop (mkF m 274 #[.val (.long zA), .second, .val (.long zB), .second, .val (.int p2), .val (.int p3), .val (.int p4), .val (.ref x1_b3), .val (.long (own_max (1 : Int64) (zA &&& (9223372036854775807 : Int64)))), .second, .val (.long (own_max (1 : Int64) (zB &&& (9223372036854775807 : Int64)))), .second, .val (.int (1 : Int32)), .val (.ref b12), .val (.ref b36), .val (.ref b80), .val (.int (1 : Int32)), .val (.int st153')] [(.int st153'), (.int (own_b (st153'))), (.int (1 : Int32))])) t := fun t kt => by
        by_cases hc274 : st153' = (0 : Int32)
        · refine XS.ifYes X155.here hx rfl (pc0 := 274) (pc' := 281) rfl (hb hby at_274) rfl ((if0 _ _).trans (teq hc274).1) (by decide) (by decide) ?_
          refine XS.iconst X155.here hx rfl (hb hby at_281) ?_
          refine XS.icmpNo X155.here hx rfl (hb hby at_282) rfl (teq (own_b0 hc274)).2 ?_
          refine XS.iconst X155.here hx rfl (hb hby at_285) ?_
          refine XS.goto X155.here hx rfl (pc0 := 286) (pc' := 290) rfl (hb hby at_286) (by decide) (by decide) ?_
          refine XS.iand X155.here hx rfl (hb hby at_290) rfl ?_
          show Steps p.tables e below (T155.setTop (mkF m 291 #[.val (.long zA), .second, .val (.long zB), .second, .val (.int p2), .val (.int p3), .val (.int p4), .val (.ref x1_b3), .val (.long (own_max (1 : Int64) (zA &&& (9223372036854775807 : Int64)))), .second, .val (.long (own_max (1 : Int64) (zB &&& (9223372036854775807 : Int64)))), .second, .val (.int (1 : Int32)), .val (.ref b12), .val (.ref b36), .val (.ref b80), .val (.int (1 : Int32)), .val (.int st153')] [(.int (1 : Int32))])) _
          exact kt
        · refine XS.ifNo X155.here hx rfl (hb hby at_274) rfl ((if0 _ _).trans (feq hc274).1) ?_
          refine XS.iconst X155.here hx rfl (hb hby at_277) ?_
          refine XS.goto X155.here hx rfl (pc0 := 278) (pc' := 282) rfl (hb hby at_278) (by decide) (by decide) ?_
          refine XS.icmpNo X155.here hx rfl (hb hby at_282) rfl (teq (own_b1 hc274)).2 ?_
          refine XS.iconst X155.here hx rfl (hb hby at_285) ?_
          refine XS.goto X155.here hx rfl (pc0 := 286) (pc' := 290) rfl (hb hby at_286) (by decide) (by decide) ?_
          refine XS.iand X155.here hx rfl (hb hby at_290) rfl ?_
          show Steps p.tables e below (T155.setTop (mkF m 291 #[.val (.long zA), .second, .val (.long zB), .second, .val (.int p2), .val (.int p3), .val (.int p4), .val (.ref x1_b3), .val (.long (own_max (1 : Int64) (zA &&& (9223372036854775807 : Int64)))), .second, .val (.long (own_max (1 : Int64) (zB &&& (9223372036854775807 : Int64)))), .second, .val (.int (1 : Int32)), .val (.ref b12), .val (.ref b36), .val (.ref b80), .val (.int (1 : Int32)), .val (.int st153')] [(.int (1 : Int32))])) _
          exact kt
      obtain ⟨fs, hr, hrun, hended, hEW⟩ := Jvm.Stand.leaveW X155 hS131 (by rw [e155]; exact hk154) (v := (some (.int (1 : Int32)))) (fun h => by rw [Bd.returns] at h; cases h)
      refine ⟨_, _, gp11 _ ?_, hrun, hended, _, _, rfl, ?_, ⟨_, rfl⟩, hEW.2.1, hEW.2.2.1, hEW.2.2.2.mono (by decide) (by decide)⟩
      · refine XS.ifNo X10.here hx rfl (hb hby at_51) rfl ((if0 _ _).trans (teq ((lw_eq _ _).mpr hq)).2) ?_
        refine XS.iconst X10.here hx rfl (hb hby at_54) ?_
        refine XS.goto X10.here hx rfl (pc0 := 55) (pc' := 59) rfl (hb hby at_55) (by decide) (by decide) ?_
        refine XS.istore X10.here hx rfl (hb hby at_59) rfl (l' := #[.val (.long zA), .second, .val (.long zB), .second, .val (.int p2), .val (.int p3), .val (.int p4), .val (.ref x1_b3), .val (.long (own_max (1 : Int64) (zA &&& (9223372036854775807 : Int64)))), .second, .val (.long (own_max (1 : Int64) (zB &&& (9223372036854775807 : Int64)))), .second, .val (.int (1 : Int32)), .unset, .unset, .unset, .unset, .unset]) rfl ?_
        refine st12 _ ?_
        refine XS.dup X12.here hx rfl (hb hby at_64) rfl rfl ?_
        refine XS.aload X12.here hx rfl (hb hby at_65) rfl rfl ?_
        refine st28.trans ?_
        refine XS.astore X28.here hx rfl (hb hby at_70) rfl rfl (l' := #[.val (.long zA), .second, .val (.long zB), .second, .val (.int p2), .val (.int p3), .val (.int p4), .val (.ref x1_b3), .val (.long (own_max (1 : Int64) (zA &&& (9223372036854775807 : Int64)))), .second, .val (.long (own_max (1 : Int64) (zB &&& (9223372036854775807 : Int64)))), .second, .val (.int (1 : Int32)), .val (.ref b12), .unset, .unset, .unset, .unset]) rfl ?_
        refine st36 _ ?_
        refine XS.dup X36.here hx rfl (hb hby at_75) rfl rfl ?_
        refine st50 _ ?_
        refine XS.dup X50.here hx rfl (hb hby at_79) rfl rfl ?_
        refine XS.aload X50.here hx rfl (hb hby at_80) rfl rfl ?_
        refine XS.lload X50.here hx rfl (hb hby at_82) rfl ?_
        refine st70.trans ?_
        refine st72 _ ?_
        refine st78.trans ?_
        refine XS.astore X78r.here hx rfl (hb hby at_93) rfl rfl (l' := #[.val (.long zA), .second, .val (.long zB), .second, .val (.int p2), .val (.int p3), .val (.int p4), .val (.ref x1_b3), .val (.long (own_max (1 : Int64) (zA &&& (9223372036854775807 : Int64)))), .second, .val (.long (own_max (1 : Int64) (zB &&& (9223372036854775807 : Int64)))), .second, .val (.int (1 : Int32)), .val (.ref b12), .val (.ref b36), .unset, .unset, .unset]) rfl ?_
        refine st80 _ ?_
        refine XS.dup X80.here hx rfl (hb hby at_98) rfl rfl ?_
        refine st99 _ ?_
        refine XS.dup X99.here hx rfl (hb hby at_102) rfl rfl ?_
        refine XS.aload X99.here hx rfl (hb hby at_103) rfl rfl ?_
        refine XS.lload X99.here hx rfl (hb hby at_105) rfl ?_
        refine st123.trans ?_
        refine st125 _ ?_
        refine st131.trans ?_
        refine XS.astore X131r.here hx rfl (hb hby at_116) rfl rfl (l' := #[.val (.long zA), .second, .val (.long zB), .second, .val (.int p2), .val (.int p3), .val (.int p4), .val (.ref x1_b3), .val (.long (own_max (1 : Int64) (zA &&& (9223372036854775807 : Int64)))), .second, .val (.long (own_max (1 : Int64) (zB &&& (9223372036854775807 : Int64)))), .second, .val (.int (1 : Int32)), .val (.ref b12), .val (.ref b36), .val (.ref b80), .unset, .unset]) rfl ?_
        refine XS.aload X131r.here hx rfl (hb hby at_118) rfl rfl ?_
        refine st135.trans ?_
        refine XS.ifNo X135.here hx rfl (hb hby at_123) rfl ((if0 _ _).trans (teq (by decide : (0 : Int32) = (0 : Int32))).2) ?_
        refine XS.iconst X135.here hx rfl (hb hby at_126) ?_
        refine XS.goto X135.here hx rfl (pc0 := 127) (pc' := 131) rfl (hb hby at_127) (by decide) (by decide) ?_
        refine XS.istore X135.here hx rfl (hb hby at_131) rfl (l' := #[.val (.long zA), .second, .val (.long zB), .second, .val (.int p2), .val (.int p3), .val (.int p4), .val (.ref x1_b3), .val (.long (own_max (1 : Int64) (zA &&& (9223372036854775807 : Int64)))), .second, .val (.long (own_max (1 : Int64) (zB &&& (9223372036854775807 : Int64)))), .second, .val (.int (1 : Int32)), .val (.ref b12), .val (.ref b36), .val (.ref b80), .val (.int (1 : Int32)), .unset]) rfl ?_
        refine XS.iconst X135.here hx rfl (hb hby at_133) ?_
        refine XS.istore X135.here hx rfl (hb hby at_134) rfl (l' := #[.val (.long zA), .second, .val (.long zB), .second, .val (.int p2), .val (.int p3), .val (.int p4), .val (.ref x1_b3), .val (.long (own_max (1 : Int64) (zA &&& (9223372036854775807 : Int64)))), .second, .val (.long (own_max (1 : Int64) (zB &&& (9223372036854775807 : Int64)))), .second, .val (.int (1 : Int32)), .val (.ref b12), .val (.ref b36), .val (.ref b80), .val (.int (1 : Int32)), .val (.int (0 : Int32))]) rfl ?_
        refine XS.aload X135.here hx rfl (hb hby at_136) rfl rfl ?_
        refine XS.iload X135.here hx rfl (hb hby at_138) rfl ?_
        refine XS.iconst X135.here hx rfl (hb hby at_140) ?_
        refine XS.iand X135.here hx rfl (hb hby at_141) rfl ?_
        refine XS.aload X135.here hx rfl (hb hby at_142) rfl rfl ?_
        refine XS.aload X135.here hx rfl (hb hby at_144) rfl rfl ?_
        refine XS.lload X135.here hx rfl (hb hby at_146) rfl ?_
        refine XS.lload X135.here hx rfl (hb hby at_148) rfl ?_
        refine XS.iload X135.here hx rfl (hb hby at_150) rfl ?_
        refine XS.iload X135.here hx rfl (hb hby at_152) rfl ?_
        refine st145 _ ?_
        refine XS.istore X145.here hx rfl (hb hby at_157) rfl (l' := #[.val (.long zA), .second, .val (.long zB), .second, .val (.int p2), .val (.int p3), .val (.int p4), .val (.ref x1_b3), .val (.long (own_max (1 : Int64) (zA &&& (9223372036854775807 : Int64)))), .second, .val (.long (own_max (1 : Int64) (zB &&& (9223372036854775807 : Int64)))), .second, .val (.int (1 : Int32)), .val (.ref b12), .val (.ref b36), .val (.ref b80), .val (.int (1 : Int32)), .val (.int st145')]) rfl ?_
        refine XS.iload X145.here hx rfl (hb hby at_159) rfl ?_
        refine XS.aload X145.here hx rfl (hb hby at_161) rfl rfl ?_
        refine st147.trans ?_
        refine XS.iload X147.here hx rfl (hb hby at_166) rfl ?_
        refine mg148 _ ?_
        refine XS.istore X147.here hx rfl (hb hby at_185) rfl (l' := #[.val (.long zA), .second, .val (.long zB), .second, .val (.int p2), .val (.int p3), .val (.int p4), .val (.ref x1_b3), .val (.long (own_max (1 : Int64) (zA &&& (9223372036854775807 : Int64)))), .second, .val (.long (own_max (1 : Int64) (zB &&& (9223372036854775807 : Int64)))), .second, .val (.int (1 : Int32)), .val (.ref b12), .val (.ref b36), .val (.ref b80), .val (.int (1 : Int32)), .val (.int st145')]) rfl ?_
        refine XS.aload X147.here hx rfl (hb hby at_187) rfl rfl ?_
        refine XS.iload X147.here hx rfl (hb hby at_189) rfl ?_
        refine XS.iconst X147.here hx rfl (hb hby at_191) ?_
        refine XS.ishr X147.here hx rfl (hb hby at_192) rfl ?_
        refine XS.iconst X147.here hx rfl (hb hby at_193) ?_
        refine XS.iand X147.here hx rfl (hb hby at_194) rfl ?_
        refine XS.aload X147.here hx rfl (hb hby at_195) rfl rfl ?_
        refine XS.aload X147.here hx rfl (hb hby at_197) rfl rfl ?_
        refine XS.lload X147.here hx rfl (hb hby at_199) rfl ?_
        refine XS.lload X147.here hx rfl (hb hby at_201) rfl ?_
        refine XS.iload X147.here hx rfl (hb hby at_203) rfl ?_
        refine XS.iload X147.here hx rfl (hb hby at_205) rfl ?_
        refine st149 _ ?_
        refine XS.istore X149.here hx rfl (hb hby at_210) rfl (l' := #[.val (.long zA), .second, .val (.long zB), .second, .val (.int p2), .val (.int p3), .val (.int p4), .val (.ref x1_b3), .val (.long (own_max (1 : Int64) (zA &&& (9223372036854775807 : Int64)))), .second, .val (.long (own_max (1 : Int64) (zB &&& (9223372036854775807 : Int64)))), .second, .val (.int (1 : Int32)), .val (.ref b12), .val (.ref b36), .val (.ref b80), .val (.int (1 : Int32)), .val (.int st149')]) rfl ?_
        refine XS.iload X149.here hx rfl (hb hby at_212) rfl ?_
        refine XS.aload X149.here hx rfl (hb hby at_214) rfl rfl ?_
        refine st151.trans ?_
        refine XS.iload X151.here hx rfl (hb hby at_219) rfl ?_
        refine mg152 _ ?_
        refine XS.istore X151.here hx rfl (hb hby at_238) rfl (l' := #[.val (.long zA), .second, .val (.long zB), .second, .val (.int p2), .val (.int p3), .val (.int p4), .val (.ref x1_b3), .val (.long (own_max (1 : Int64) (zA &&& (9223372036854775807 : Int64)))), .second, .val (.long (own_max (1 : Int64) (zB &&& (9223372036854775807 : Int64)))), .second, .val (.int (1 : Int32)), .val (.ref b12), .val (.ref b36), .val (.ref b80), .val (.int (1 : Int32)), .val (.int st149')]) rfl ?_
        refine XS.aload X151.here hx rfl (hb hby at_240) rfl rfl ?_
        refine XS.iload X151.here hx rfl (hb hby at_242) rfl ?_
        refine XS.iconst X151.here hx rfl (hb hby at_244) ?_
        refine XS.ishr X151.here hx rfl (hb hby at_245) rfl ?_
        refine XS.iconst X151.here hx rfl (hb hby at_246) ?_
        refine XS.iand X151.here hx rfl (hb hby at_247) rfl ?_
        refine XS.aload X151.here hx rfl (hb hby at_248) rfl rfl ?_
        refine XS.aload X151.here hx rfl (hb hby at_250) rfl rfl ?_
        refine XS.lload X151.here hx rfl (hb hby at_252) rfl ?_
        refine XS.lload X151.here hx rfl (hb hby at_254) rfl ?_
        refine XS.iload X151.here hx rfl (hb hby at_256) rfl ?_
        refine XS.iload X151.here hx rfl (hb hby at_258) rfl ?_
        refine st153 _ ?_
        refine XS.istore X153.here hx rfl (hb hby at_263) rfl (l' := #[.val (.long zA), .second, .val (.long zB), .second, .val (.int p2), .val (.int p3), .val (.int p4), .val (.ref x1_b3), .val (.long (own_max (1 : Int64) (zA &&& (9223372036854775807 : Int64)))), .second, .val (.long (own_max (1 : Int64) (zB &&& (9223372036854775807 : Int64)))), .second, .val (.int (1 : Int32)), .val (.ref b12), .val (.ref b36), .val (.ref b80), .val (.int (1 : Int32)), .val (.int st153')]) rfl ?_
        refine XS.iload X153.here hx rfl (hb hby at_265) rfl ?_
        refine XS.aload X153.here hx rfl (hb hby at_267) rfl rfl ?_
        refine st155.trans ?_
        refine XS.iload X155.here hx rfl (hb hby at_272) rfl ?_
        refine mg156 _ ?_
        refine XS.istore X155.here hx rfl (hb hby at_291) rfl (l' := #[.val (.long zA), .second, .val (.long zB), .second, .val (.int p2), .val (.int p3), .val (.int p4), .val (.ref x1_b3), .val (.long (own_max (1 : Int64) (zA &&& (9223372036854775807 : Int64)))), .second, .val (.long (own_max (1 : Int64) (zB &&& (9223372036854775807 : Int64)))), .second, .val (.int (1 : Int32)), .val (.ref b12), .val (.ref b36), .val (.ref b80), .val (.int (1 : Int32)), .val (.int st153')]) rfl ?_
        refine XS.iload X155.here hx rfl (hb hby at_293) rfl ?_
        exact retN X155 hx (t := .boolean) Bd.returns (by simp) (hb hby at_295) hr
      · show Q0 n0 _ T155.heap _
        rw [e155]
        exact ⟨rfl, N155⟩
    · obtain ⟨T157, h157, X157, e157, E157, A157, D157, -, st157⟩ := newO X10 hx hZ0 hown0 (wq hw 31 rfl) (wq hw 32 rfl) (wq hw 33 rfl) e10 (g := (mkF m 61 #[.val (.long zA), .second, .val (.long zB), .second, .val (.int p2), .val (.int p3), .val (.int p4), .val (.ref x1_b3), .val (.long (own_max (1 : Int64) (zA &&& (9223372036854775807 : Int64)))), .second, .val (.long (own_max (1 : Int64) (zB &&& (9223372036854775807 : Int64)))), .second, .val (.int (0 : Int32)), .unset, .unset, .unset, .unset, .unset] [])) rfl (hb hby at_61) (by decide) (by decide)
      obtain ⟨b157, gb157⟩ : ∃ z, z = T1.heap.size := ⟨_, rfl⟩
      rw [← gb157] at A157 D157 st157
      have t158 : Exa Z T1.heap aE nOption_1 := ((hS.2.2.2.1.ext O0.2).keep K1)
      have ne159 : aE ≠ b157 := Nat.ne_of_lt (Nat.lt_of_lt_of_le t158.lt (Nat.le_of_eq gb157.symm))
      have ne160 : x1_b3 ≠ b157 := Nat.ne_of_lt (Nat.lt_of_lt_of_le q1_0.lt (Nat.le_of_eq gb157.symm))
      have ne161 : x1_x10_b1 ≠ b157 := Nat.ne_of_lt (Nat.lt_of_lt_of_le q1_3.lt (Nat.le_of_eq gb157.symm))
      have g162 : n0 ≤ b157 := Nat.le_trans (Nat.le_of_eq O6.1.symm) (Nat.le_trans O6.2.1 (Nat.le_of_eq gb157.symm))
      have O163 : Old Z n0 h157 := Old.ext O6 E157
      have hk164 := Nat.le_trans hk7 E157.1
      have f165 : Fld Z h157 b157 nKnownO_3 "runs" "Ljava/util/NavigableMap;" .null := D157 (Or.inr (wq hw 58 rfl)) (ty := (.object "java/util/NavigableMap")) (by decide)
      have f166 : Fld Z h157 b157 nKnownO_3 "identifier" "Ljava/lang/String;" .null := D157 (Or.inr (wq hw 60 rfl)) (ty := (.object nString_0)) (by decide)
      have f167 : Fld Z h157 b157 nKnownO_3 "named" nPredec_7 .null := D157 (Or.inl (wq hw 129 rfl)) (ty := (.object nPredec_4)) (by decide)
      have f168 : Fld Z h157 b157 nKnownO_3 "namedSeq" "J" (.long (0 : Int64)) := D157 (Or.inl (wq hw 155 rfl)) (ty := .long) (by decide)
      have f169 : Fld Z h157 b157 nKnownO_3 "alsoNamed" nList_8 .null := D157 (Or.inl (wq hw 157 rfl)) (ty := (.object "java/util/List")) (by decide)
      have t170 : Exa Z h157 x1_b3 nString_0 := (q1_0.ext E157)
      have t171 : Arv Z h157 x1_x10_b1 x1_x10_k1 .byte (1 : Int32) [(.int (nar .byte (((p4 &&& (255 : Int32)).toUInt32.toUInt16.toUInt32.toInt32).toInt8.toInt32)))] (.int (0 : Int32)) := (q1_3.ext E157)
      have t172 : Exa Z h157 aE nOption_1 := (t158.ext E157)
      obtain ⟨_, _, ⟨T173, L173, k173, n173⟩, -, X173, ⟨Lc173, hQ173, l173, y173, z173⟩, st173⟩ := X157.specialBack hx (y := my_33) rfl hown0 (mvT hZ0 (wq hw 34 rfl)) (mvT hZ0 (wq hw 35 rfl)) (mvT hZ0 (wq hw 36 rfl)) (by decide) (backOf (W := 1) (rc35_init l Z a0 hw [] cs aE hS b157 x1_b3 x1_x10_b1 x1_x10_k1 (nar .byte (((p4 &&& (255 : Int32)).toUInt32.toUInt16.toUInt32.toInt32).toInt8.toInt32)) h157 n0 O163 g2 g4 g162 A157 f169 f166 f167 f168 f165 t170 t171) hZ0 (wq hw 36 rfl) (wq hw 33 rfl) (by decide) (by decide)) (g := (mkF m 67 #[.val (.long zA), .second, .val (.long zB), .second, .val (.int p2), .val (.int p3), .val (.int p4), .val (.ref x1_b3), .val (.long (own_max (1 : Int64) (zA &&& (9223372036854775807 : Int64)))), .second, .val (.long (own_max (1 : Int64) (zB &&& (9223372036854775807 : Int64)))), .second, .val (.int (0 : Int32)), .unset, .unset, .unset, .unset, .unset] [(.ref x1_b3), (.ref b157), (.ref b157)])) rfl (by rw [hml]; rfl) (Steps.refl _) (a := b157) (argsL := [(.ref x1_b3)]) (rest := [(.ref b157)]) (lenOf pd_20 rfl) rfl (by show 2 * 0 + _ ≤ _; exact Nat.le_of_eq rfl) (hb hby at_67) (fun _ _ => ⟨rfl, e157, (by decide : 3 + 1 ≤ _), (by decide : 12 + 9 ≤ _)⟩)
      dsimp only [Pt.U, Pt.locs, Pt.cells, Pt.slots] at X173 l173 y173 z173 st173 hQ173
      have X173 := own_to X173 l173 y173 z173
      obtain ⟨x173_b2, rfl, N173q, K173, sz173_b2, q173_0, q173_1, q173_2, q173_3, q173_4, q173_5, q173_6, q173_7, q173_8, q173_9⟩ := hQ173
      have N173 := Fr.app N10 N173q
      have g174 : n0 ≤ x173_b2 := Nat.le_trans (Nat.le_of_eq O163.1.symm) (Nat.le_trans O163.2.1 sz173_b2)
      have ne175 : aE ≠ x173_b2 := Nat.ne_of_lt (Nat.lt_of_lt_of_le t172.lt sz173_b2)
      have ne176 : x1_b3 ≠ x173_b2 := Nat.ne_of_lt (Nat.lt_of_lt_of_le t170.lt sz173_b2)
      have ne177 : x1_x10_b1 ≠ x173_b2 := Nat.ne_of_lt (Nat.lt_of_lt_of_le t171.lt sz173_b2)
      have ne178 : b157 ≠ x173_b2 := Nat.ne_of_lt (Nat.lt_of_lt_of_le A157.lt sz173_b2)
      have O179 : Old Z n0 T173.heap := Old.keep O163 K173 (allS g162 all0)
      have hk180 := Nat.le_trans hk164 K173.1
      obtain ⟨T181, h181, X181, e181, E181, A181, D181, -, st181⟩ := newO X173 hx hZ0 hown0 (wq hw 61 rfl) (wq hw 62 rfl) (wq hw 63 rfl) rfl (g := (mkF m 72 #[.val (.long zA), .second, .val (.long zB), .second, .val (.int p2), .val (.int p3), .val (.int p4), .val (.ref x1_b3), .val (.long (own_max (1 : Int64) (zA &&& (9223372036854775807 : Int64)))), .second, .val (.long (own_max (1 : Int64) (zB &&& (9223372036854775807 : Int64)))), .second, .val (.int (0 : Int32)), .val (.ref b157), .unset, .unset, .unset, .unset] [])) rfl (hb hby at_72) (by decide) (by decide)
      obtain ⟨b181, gb181⟩ : ∃ z, z = T173.heap.size := ⟨_, rfl⟩
      rw [← gb181] at A181 D181 st181
      have t182 : Exa Z T173.heap aE nOption_1 := (t172.keep K173)
      have ne183 : aE ≠ b181 := Nat.ne_of_lt (Nat.lt_of_lt_of_le t182.lt (Nat.le_of_eq gb181.symm))
      have t184 : Exa Z T173.heap x1_b3 nString_0 := (t170.keep K173)
      have ne185 : x1_b3 ≠ b181 := Nat.ne_of_lt (Nat.lt_of_lt_of_le t184.lt (Nat.le_of_eq gb181.symm))
      have t186 : Arv Z T173.heap x1_x10_b1 x1_x10_k1 .byte (1 : Int32) [(.int (nar .byte (((p4 &&& (255 : Int32)).toUInt32.toUInt16.toUInt32.toInt32).toInt8.toInt32)))] (.int (0 : Int32)) := (t171.keep K173 (ninS ne161 nin0))
      have ne187 : x1_x10_b1 ≠ b181 := Nat.ne_of_lt (Nat.lt_of_lt_of_le t186.lt (Nat.le_of_eq gb181.symm))
      have ne188 : b157 ≠ b181 := Nat.ne_of_lt (Nat.lt_of_lt_of_le q173_0.lt (Nat.le_of_eq gb181.symm))
      have ne189 : x173_b2 ≠ b181 := Nat.ne_of_lt (Nat.lt_of_lt_of_le q173_6.lt (Nat.le_of_eq gb181.symm))
      have g190 : n0 ≤ b181 := Nat.le_trans (Nat.le_of_eq O179.1.symm) (Nat.le_trans O179.2.1 (Nat.le_of_eq gb181.symm))
      have O191 : Old Z n0 h181 := Old.ext O179 E181
      have hk192 := Nat.le_trans hk180 E181.1
      have f193 : Fld Z h181 b181 nPredec_4 "id" nMessag_5 .null := D181 (Or.inr (wq hw 120 rfl)) (ty := (.object nMessag_6)) (by decide)
      have f194 : Fld Z h181 b181 nPredec_4 "deadline" nOption_2 .null := D181 (Or.inr (wq hw 122 rfl)) (ty := (.object nOption_1)) (by decide)
      obtain ⟨T195, h195, X195, e195, E195, A195, D195, -, st195⟩ := newO X181 hx hZ0 hown0 (wq hw 64 rfl) (wq hw 65 rfl) (wq hw 66 rfl) e181 (g := (mkF m 76 #[.val (.long zA), .second, .val (.long zB), .second, .val (.int p2), .val (.int p3), .val (.int p4), .val (.ref x1_b3), .val (.long (own_max (1 : Int64) (zA &&& (9223372036854775807 : Int64)))), .second, .val (.long (own_max (1 : Int64) (zB &&& (9223372036854775807 : Int64)))), .second, .val (.int (0 : Int32)), .val (.ref b157), .unset, .unset, .unset, .unset] [(.ref b181), (.ref b181)])) rfl (hb hby at_76) (by decide) (by decide)
      obtain ⟨b195, gb195⟩ : ∃ z, z = h181.size := ⟨_, rfl⟩
      rw [← gb195] at A195 D195 st195
      have t196 : Exa Z h181 aE nOption_1 := (t182.ext E181)
      have ne197 : aE ≠ b195 := Nat.ne_of_lt (Nat.lt_of_lt_of_le t196.lt (Nat.le_of_eq gb195.symm))
      have t198 : Exa Z h181 x1_b3 nString_0 := (t184.ext E181)
      have ne199 : x1_b3 ≠ b195 := Nat.ne_of_lt (Nat.lt_of_lt_of_le t198.lt (Nat.le_of_eq gb195.symm))
      have t200 : Arv Z h181 x1_x10_b1 x1_x10_k1 .byte (1 : Int32) [(.int (nar .byte (((p4 &&& (255 : Int32)).toUInt32.toUInt16.toUInt32.toInt32).toInt8.toInt32)))] (.int (0 : Int32)) := (t186.ext E181)
      have ne201 : x1_x10_b1 ≠ b195 := Nat.ne_of_lt (Nat.lt_of_lt_of_le t200.lt (Nat.le_of_eq gb195.symm))
      have t202 : Exa Z h181 b157 nKnownO_3 := (q173_0.ext E181)
      have ne203 : b157 ≠ b195 := Nat.ne_of_lt (Nat.lt_of_lt_of_le t202.lt (Nat.le_of_eq gb195.symm))
      have t204 : Exa Z h181 x173_b2 nTreeMa_14 := (q173_6.ext E181)
      have ne205 : x173_b2 ≠ b195 := Nat.ne_of_lt (Nat.lt_of_lt_of_le t204.lt (Nat.le_of_eq gb195.symm))
      have ne206 : b181 ≠ b195 := Nat.ne_of_lt (Nat.lt_of_lt_of_le A181.lt (Nat.le_of_eq gb195.symm))
      have g207 : n0 ≤ b195 := Nat.le_trans (Nat.le_of_eq O191.1.symm) (Nat.le_trans O191.2.1 (Nat.le_of_eq gb195.symm))
      have O208 : Old Z n0 h195 := Old.ext O191 E195
      have hk209 := Nat.le_trans hk192 E195.1
      have f210 : Fld Z h195 b195 nMessag_6 "origin" "Ljava/lang/String;" .null := D195 (Or.inr (wq hw 94 rfl)) (ty := (.object nString_0)) (by decide)
      have f211 : Fld Z h195 b195 nMessag_6 "seq" "J" (.long (0 : Int64)) := D195 (Or.inr (wq hw 96 rfl)) (ty := .long) (by decide)
      have t212 : Exa Z h195 x1_b3 nString_0 := (t198.ext E195)
      have t213 : Fld Z h195 x1_b3 nString_0 "value" "[B" (.ref x1_x10_b1) := ((((q1_2.ext E157).keep K173 (ninS ne160 nin0)).ext E181).ext E195)
      have t214 : Arv Z h195 x1_x10_b1 x1_x10_k1 .byte (1 : Int32) [(.int (nar .byte (((p4 &&& (255 : Int32)).toUInt32.toUInt16.toUInt32.toInt32).toInt8.toInt32)))] (.int (0 : Int32)) := (t200.ext E195)
      obtain ⟨_, _, ⟨T215, L215, k215, n215⟩, -, X215, hSi215, hge215, ⟨Lc215, hQ215, l215, y215, z215⟩, st215⟩ := X195.specialBackS hx (y := my_38) rfl hown0 (mvT hZ0 (wq hw 67 rfl)) (mvT hZ0 (wq hw 68 rfl)) (mvT hZ0 (wq hw 69 rfl)) (by decide) (backOfS (W := 3) (rc38_init l Z a0 hw [] cs aE hS b195 x1_b3 (own_max (1 : Int64) (zA &&& (9223372036854775807 : Int64))) x1_x10_b1 x1_x10_k1 (nar .byte (((p4 &&& (255 : Int32)).toUInt32.toUInt16.toUInt32.toInt32).toInt8.toInt32)) h195 n0 O208 g2 g4 g207 A195 f210 f211 t212 t213 t214 (own_max_ge _)) hZ0 (wq hw 69 rfl) (wq hw 66 rfl) (by decide) (by decide)) (g := (mkF m 84 #[.val (.long zA), .second, .val (.long zB), .second, .val (.int p2), .val (.int p3), .val (.int p4), .val (.ref x1_b3), .val (.long (own_max (1 : Int64) (zA &&& (9223372036854775807 : Int64)))), .second, .val (.long (own_max (1 : Int64) (zB &&& (9223372036854775807 : Int64)))), .second, .val (.int (0 : Int32)), .val (.ref b157), .unset, .unset, .unset, .unset] [(.long (own_max (1 : Int64) (zA &&& (9223372036854775807 : Int64)))), (.ref x1_b3), (.ref b195), (.ref b195), (.ref b181), (.ref b181)])) rfl (by rw [hml]; rfl) (Steps.refl _) (a := b195) (argsL := [(.ref x1_b3), (.long (own_max (1 : Int64) (zA &&& (9223372036854775807 : Int64))))]) (rest := [(.ref b195), (.ref b181), (.ref b181)]) (lenOf pd_23 rfl) rfl (by show 2 * 0 + _ ≤ _; exact Nat.le_of_eq rfl) (hb hby at_84) (fun _ _ => ⟨rfl, e195, (by decide : 6 + 4 ≤ _), (by decide : 25 + 104 ≤ _)⟩)
      dsimp only [Pt.U, Pt.locs, Pt.cells, Pt.slots] at X215 l215 y215 z215 st215 hQ215 hSi215 hge215
      have X215 := own_to X215 l215 y215 z215
      obtain ⟨X215r, hS215, hZ215, hown215⟩ := rebS hS0 hk209 X215 hSi215 (by rw [← e195]; exact hge215) hZ0 hown0
      obtain ⟨rfl, N215q, K215, q215_0, q215_1, q215_2⟩ := hQ215
      have N215 := Fr.app N173 N215q
      have O216 : Old Z n0 T215.heap := Old.keep O208 K215 (allS g207 all0)
      obtain ⟨_, _, ⟨T217, L217, k217, n217⟩, -, X217, ⟨Lc217, hQ217, l217, y217, z217⟩, st217⟩ := Jvm.LawKit.callS X215r hx (y := my_39) hown215 (mvT hZ215 (wq hw 97 rfl)) (mvT hZ215 (wq hw 98 rfl)) (mvT hZ215 (wq hw 99 rfl)) (mvT hZ215 (wq hw 100 rfl)) (by decide) (backOf (W := 3) (rc43_empty l Z a0 hw [] cs aE hS  T215.heap n0 O216 ) hZ215 (wq hw 100 rfl) (wq hw 99 rfl) (by decide) (by decide)) (g := (mkF m 87 #[.val (.long zA), .second, .val (.long zB), .second, .val (.int p2), .val (.int p3), .val (.int p4), .val (.ref x1_b3), .val (.long (own_max (1 : Int64) (zA &&& (9223372036854775807 : Int64)))), .second, .val (.long (own_max (1 : Int64) (zB &&& (9223372036854775807 : Int64)))), .second, .val (.int (0 : Int32)), .val (.ref b157), .unset, .unset, .unset, .unset] [(.ref b195), (.ref b181), (.ref b181)])) rfl (by rw [hml]; rfl) (argsL := []) (rest := [(.ref b195), (.ref b181), (.ref b181)]) (lenOf pd_24 rfl) rfl (by show 2 * 0 + _ ≤ _; exact Nat.le_of_eq rfl) (hb hby at_87) (fun _ _ => ⟨rfl, rfl, (by decide : 10 + 0 ≤ _), (by decide : 129 + 0 ≤ _)⟩)
      dsimp only [Pt.U, Pt.locs, Pt.cells, Pt.slots] at X217 l217 y217 z217 st217 hQ217
      have X217 := own_to X217 l217 y217 z217
      obtain ⟨rfl, N217q, e217⟩ := hQ217
      have N217 := Fr.app N215 N217q
      have t218 : Exa Z T215.heap b181 nPredec_4 := ((A181.ext E195).keep K215)
      have t219 : Fld Z T215.heap b181 nPredec_4 "deadline" nOption_2 .null := ((f194.ext E195).keep K215 (ninS ne206 nin0))
      have t220 : Fld Z T215.heap b181 nPredec_4 "id" nMessag_5 .null := ((f193.ext E195).keep K215 (ninS ne206 nin0))
      have t221 : Exa Z T215.heap aE nOption_1 := ((t196.ext E195).keep K215)
      have t222 : Fld Z T215.heap aE nOption_1 "isPresent" "Z" (.int (0 : Int32)) := (((((((hS.2.2.2.2.ext O0.2).keep K1 nin0).ext E157).keep K173 (ninS ne159 nin0)).ext E181).ext E195).keep K215 (ninS ne197 nin0))
      obtain ⟨_, _, ⟨T223, L223, k223, n223⟩, -, X223, hSi223, hge223, ⟨Lc223, hQ223, l223, y223, z223⟩, st223⟩ := X217.specialBackS hx (y := my_42) rfl hown215 (mvT hZ215 (wq hw 102 rfl)) (mvT hZ215 (wq hw 103 rfl)) (mvT hZ215 (wq hw 104 rfl)) (by decide) (backOfS (W := 1) (rc44_init l Z a0 hw [] cs aE hS b181 b195 aE T215.heap n0 O216 g190 g207 t218 t219 t220 t221 t222) hZ215 (wq hw 104 rfl) (wq hw 63 rfl) (by decide) (by decide)) (g := (mkF m 90 #[.val (.long zA), .second, .val (.long zB), .second, .val (.int p2), .val (.int p3), .val (.int p4), .val (.ref x1_b3), .val (.long (own_max (1 : Int64) (zA &&& (9223372036854775807 : Int64)))), .second, .val (.long (own_max (1 : Int64) (zB &&& (9223372036854775807 : Int64)))), .second, .val (.int (0 : Int32)), .val (.ref b157), .unset, .unset, .unset, .unset] [(.ref aE), (.ref b195), (.ref b181), (.ref b181)])) rfl (by rw [hml]; rfl) (Steps.refl _) (a := b181) (argsL := [(.ref b195), (.ref aE)]) (rest := [(.ref b181)]) (lenOf pd_26 rfl) rfl (by show 2 * 0 + _ ≤ _; exact Nat.le_of_eq rfl) (hb hby at_90) (fun _ _ => ⟨rfl, e217, (by decide : 10 + 4 ≤ _), (by decide : 129 + 48 ≤ _)⟩)
      dsimp only [Pt.U, Pt.locs, Pt.cells, Pt.slots] at X223 l223 y223 z223 st223 hQ223 hSi223 hge223
      have X223 := own_to X223 l223 y223 z223
      obtain ⟨X223r, hS223, hZ223, hown223⟩ := rebS hS215 (Nat.le_refl _) X223 hSi223 (by rw [← e217]; exact hge223) hZ215 hown215
      obtain ⟨rfl, N223q, K223, q223_0, q223_1, q223_2⟩ := hQ223
      have N223 := Fr.app N217 N223q
      have O224 : Old Z n0 T223.heap := Old.keep O216 K223 (allS g190 all0)
      obtain ⟨T225, h225, X225, e225, E225, A225, D225, -, st225⟩ := newO X223r hx hZ223 hown223 (wq hw 61 rfl) (wq hw 62 rfl) (wq hw 63 rfl) rfl (g := (mkF m 95 #[.val (.long zA), .second, .val (.long zB), .second, .val (.int p2), .val (.int p3), .val (.int p4), .val (.ref x1_b3), .val (.long (own_max (1 : Int64) (zA &&& (9223372036854775807 : Int64)))), .second, .val (.long (own_max (1 : Int64) (zB &&& (9223372036854775807 : Int64)))), .second, .val (.int (0 : Int32)), .val (.ref b157), .val (.ref b181), .unset, .unset, .unset] [])) rfl (hb hby at_95) (by decide) (by decide)
      obtain ⟨b225, gb225⟩ : ∃ z, z = T223.heap.size := ⟨_, rfl⟩
      rw [← gb225] at A225 D225 st225
      have t226 : Exa Z T223.heap aE nOption_1 := (t221.keep K223)
      have ne227 : aE ≠ b225 := Nat.ne_of_lt (Nat.lt_of_lt_of_le t226.lt (Nat.le_of_eq gb225.symm))
      have t228 : Exa Z T223.heap x1_b3 nString_0 := ((t212.keep K215).keep K223)
      have ne229 : x1_b3 ≠ b225 := Nat.ne_of_lt (Nat.lt_of_lt_of_le t228.lt (Nat.le_of_eq gb225.symm))
      have t230 : Arv Z T223.heap x1_x10_b1 x1_x10_k1 .byte (1 : Int32) [(.int (nar .byte (((p4 &&& (255 : Int32)).toUInt32.toUInt16.toUInt32.toInt32).toInt8.toInt32)))] (.int (0 : Int32)) := ((t214.keep K215 (ninS ne201 nin0)).keep K223 (ninS ne187 nin0))
      have ne231 : x1_x10_b1 ≠ b225 := Nat.ne_of_lt (Nat.lt_of_lt_of_le t230.lt (Nat.le_of_eq gb225.symm))
      have t232 : Exa Z T223.heap b157 nKnownO_3 := (((t202.ext E195).keep K215).keep K223)
      have ne233 : b157 ≠ b225 := Nat.ne_of_lt (Nat.lt_of_lt_of_le t232.lt (Nat.le_of_eq gb225.symm))
      have t234 : Exa Z T223.heap x173_b2 nTreeMa_14 := (((t204.ext E195).keep K215).keep K223)
      have ne235 : x173_b2 ≠ b225 := Nat.ne_of_lt (Nat.lt_of_lt_of_le t234.lt (Nat.le_of_eq gb225.symm))
      have t236 : Exa Z T223.heap b195 nMessag_6 := (q215_0.keep K223)
      have ne237 : b195 ≠ b225 := Nat.ne_of_lt (Nat.lt_of_lt_of_le t236.lt (Nat.le_of_eq gb225.symm))
      have ne238 : b181 ≠ b225 := Nat.ne_of_lt (Nat.lt_of_lt_of_le q223_0.lt (Nat.le_of_eq gb225.symm))
      have g239 : n0 ≤ b225 := Nat.le_trans (Nat.le_of_eq O224.1.symm) (Nat.le_trans O224.2.1 (Nat.le_of_eq gb225.symm))
      have O240 : Old Z n0 h225 := Old.ext O224 E225
      have hk241 := Nat.le_trans (Nat.le_refl _) E225.1
      have f242 : Fld Z h225 b225 nPredec_4 "id" nMessag_5 .null := D225 (Or.inr (wq hw 120 rfl)) (ty := (.object nMessag_6)) (by decide)
      have f243 : Fld Z h225 b225 nPredec_4 "deadline" nOption_2 .null := D225 (Or.inr (wq hw 122 rfl)) (ty := (.object nOption_1)) (by decide)
      obtain ⟨T244, h244, X244, e244, E244, A244, D244, -, st244⟩ := newO X225 hx hZ223 hown223 (wq hw 64 rfl) (wq hw 65 rfl) (wq hw 66 rfl) e225 (g := (mkF m 99 #[.val (.long zA), .second, .val (.long zB), .second, .val (.int p2), .val (.int p3), .val (.int p4), .val (.ref x1_b3), .val (.long (own_max (1 : Int64) (zA &&& (9223372036854775807 : Int64)))), .second, .val (.long (own_max (1 : Int64) (zB &&& (9223372036854775807 : Int64)))), .second, .val (.int (0 : Int32)), .val (.ref b157), .val (.ref b181), .unset, .unset, .unset] [(.ref b225), (.ref b225)])) rfl (hb hby at_99) (by decide) (by decide)
      obtain ⟨b244, gb244⟩ : ∃ z, z = h225.size := ⟨_, rfl⟩
      rw [← gb244] at A244 D244 st244
      have t245 : Exa Z h225 aE nOption_1 := (t226.ext E225)
      have ne246 : aE ≠ b244 := Nat.ne_of_lt (Nat.lt_of_lt_of_le t245.lt (Nat.le_of_eq gb244.symm))
      have t247 : Exa Z h225 x1_b3 nString_0 := (t228.ext E225)
      have ne248 : x1_b3 ≠ b244 := Nat.ne_of_lt (Nat.lt_of_lt_of_le t247.lt (Nat.le_of_eq gb244.symm))
      have t249 : Arv Z h225 x1_x10_b1 x1_x10_k1 .byte (1 : Int32) [(.int (nar .byte (((p4 &&& (255 : Int32)).toUInt32.toUInt16.toUInt32.toInt32).toInt8.toInt32)))] (.int (0 : Int32)) := (t230.ext E225)
      have ne250 : x1_x10_b1 ≠ b244 := Nat.ne_of_lt (Nat.lt_of_lt_of_le t249.lt (Nat.le_of_eq gb244.symm))
      have t251 : Exa Z h225 b157 nKnownO_3 := (t232.ext E225)
      have ne252 : b157 ≠ b244 := Nat.ne_of_lt (Nat.lt_of_lt_of_le t251.lt (Nat.le_of_eq gb244.symm))
      have t253 : Exa Z h225 x173_b2 nTreeMa_14 := (t234.ext E225)
      have ne254 : x173_b2 ≠ b244 := Nat.ne_of_lt (Nat.lt_of_lt_of_le t253.lt (Nat.le_of_eq gb244.symm))
      have t255 : Exa Z h225 b195 nMessag_6 := (t236.ext E225)
      have ne256 : b195 ≠ b244 := Nat.ne_of_lt (Nat.lt_of_lt_of_le t255.lt (Nat.le_of_eq gb244.symm))
      have t257 : Exa Z h225 b181 nPredec_4 := (q223_0.ext E225)
      have ne258 : b181 ≠ b244 := Nat.ne_of_lt (Nat.lt_of_lt_of_le t257.lt (Nat.le_of_eq gb244.symm))
      have ne259 : b225 ≠ b244 := Nat.ne_of_lt (Nat.lt_of_lt_of_le A225.lt (Nat.le_of_eq gb244.symm))
      have g260 : n0 ≤ b244 := Nat.le_trans (Nat.le_of_eq O240.1.symm) (Nat.le_trans O240.2.1 (Nat.le_of_eq gb244.symm))
      have O261 : Old Z n0 h244 := Old.ext O240 E244
      have hk262 := Nat.le_trans hk241 E244.1
      have f263 : Fld Z h244 b244 nMessag_6 "origin" "Ljava/lang/String;" .null := D244 (Or.inr (wq hw 94 rfl)) (ty := (.object nString_0)) (by decide)
      have f264 : Fld Z h244 b244 nMessag_6 "seq" "J" (.long (0 : Int64)) := D244 (Or.inr (wq hw 96 rfl)) (ty := .long) (by decide)
      have t265 : Exa Z h244 x1_b3 nString_0 := (t247.ext E244)
      have t266 : Fld Z h244 x1_b3 nString_0 "value" "[B" (.ref x1_x10_b1) := ((((t213.keep K215 (ninS ne199 nin0)).keep K223 (ninS ne185 nin0)).ext E225).ext E244)
      have t267 : Arv Z h244 x1_x10_b1 x1_x10_k1 .byte (1 : Int32) [(.int (nar .byte (((p4 &&& (255 : Int32)).toUInt32.toUInt16.toUInt32.toInt32).toInt8.toInt32)))] (.int (0 : Int32)) := (t249.ext E244)
      obtain ⟨_, _, ⟨T268, L268, k268, n268⟩, -, X268, hSi268, hge268, ⟨Lc268, hQ268, l268, y268, z268⟩, st268⟩ := X244.specialBackS hx (y := my_38) rfl hown223 (mvT hZ223 (wq hw 67 rfl)) (mvT hZ223 (wq hw 68 rfl)) (mvT hZ223 (wq hw 69 rfl)) (by decide) (backOfS (W := 3) (rc38_init l Z a0 hw [] cs aE hS b244 x1_b3 (own_max (1 : Int64) (zB &&& (9223372036854775807 : Int64))) x1_x10_b1 x1_x10_k1 (nar .byte (((p4 &&& (255 : Int32)).toUInt32.toUInt16.toUInt32.toInt32).toInt8.toInt32)) h244 n0 O261 g2 g4 g260 A244 f263 f264 t265 t266 t267 (own_max_ge _)) hZ223 (wq hw 69 rfl) (wq hw 66 rfl) (by decide) (by decide)) (g := (mkF m 107 #[.val (.long zA), .second, .val (.long zB), .second, .val (.int p2), .val (.int p3), .val (.int p4), .val (.ref x1_b3), .val (.long (own_max (1 : Int64) (zA &&& (9223372036854775807 : Int64)))), .second, .val (.long (own_max (1 : Int64) (zB &&& (9223372036854775807 : Int64)))), .second, .val (.int (0 : Int32)), .val (.ref b157), .val (.ref b181), .unset, .unset, .unset] [(.long (own_max (1 : Int64) (zB &&& (9223372036854775807 : Int64)))), (.ref x1_b3), (.ref b244), (.ref b244), (.ref b225), (.ref b225)])) rfl (by rw [hml]; rfl) (Steps.refl _) (a := b244) (argsL := [(.ref x1_b3), (.long (own_max (1 : Int64) (zB &&& (9223372036854775807 : Int64))))]) (rest := [(.ref b244), (.ref b225), (.ref b225)]) (lenOf pd_23 rfl) rfl (by show 2 * 0 + _ ≤ _; exact Nat.le_of_eq rfl) (hb hby at_107) (fun _ _ => ⟨rfl, e244, (by decide : 16 + 4 ≤ _), (by decide : 181 + 104 ≤ _)⟩)
      dsimp only [Pt.U, Pt.locs, Pt.cells, Pt.slots] at X268 l268 y268 z268 st268 hQ268 hSi268 hge268
      have X268 := own_to X268 l268 y268 z268
      obtain ⟨X268r, hS268, hZ268, hown268⟩ := rebS hS223 hk262 X268 hSi268 (by rw [← e244]; exact hge268) hZ223 hown223
      obtain ⟨rfl, N268q, K268, q268_0, q268_1, q268_2⟩ := hQ268
      have N268 := Fr.app N223 N268q
      have O269 : Old Z n0 T268.heap := Old.keep O261 K268 (allS g260 all0)
      obtain ⟨_, _, ⟨T270, L270, k270, n270⟩, -, X270, ⟨Lc270, hQ270, l270, y270, z270⟩, st270⟩ := Jvm.LawKit.callS X268r hx (y := my_39) hown268 (mvT hZ268 (wq hw 97 rfl)) (mvT hZ268 (wq hw 98 rfl)) (mvT hZ268 (wq hw 99 rfl)) (mvT hZ268 (wq hw 100 rfl)) (by decide) (backOf (W := 3) (rc43_empty l Z a0 hw [] cs aE hS  T268.heap n0 O269 ) hZ268 (wq hw 100 rfl) (wq hw 99 rfl) (by decide) (by decide)) (g := (mkF m 110 #[.val (.long zA), .second, .val (.long zB), .second, .val (.int p2), .val (.int p3), .val (.int p4), .val (.ref x1_b3), .val (.long (own_max (1 : Int64) (zA &&& (9223372036854775807 : Int64)))), .second, .val (.long (own_max (1 : Int64) (zB &&& (9223372036854775807 : Int64)))), .second, .val (.int (0 : Int32)), .val (.ref b157), .val (.ref b181), .unset, .unset, .unset] [(.ref b244), (.ref b225), (.ref b225)])) rfl (by rw [hml]; rfl) (argsL := []) (rest := [(.ref b244), (.ref b225), (.ref b225)]) (lenOf pd_24 rfl) rfl (by show 2 * 0 + _ ≤ _; exact Nat.le_of_eq rfl) (hb hby at_110) (fun _ _ => ⟨rfl, rfl, (by decide : 20 + 0 ≤ _), (by decide : 285 + 0 ≤ _)⟩)
      dsimp only [Pt.U, Pt.locs, Pt.cells, Pt.slots] at X270 l270 y270 z270 st270 hQ270
      have X270 := own_to X270 l270 y270 z270
      obtain ⟨rfl, N270q, e270⟩ := hQ270
      have N270 := Fr.app N268 N270q
      have t271 : Exa Z T268.heap b225 nPredec_4 := ((A225.ext E244).keep K268)
      have t272 : Fld Z T268.heap b225 nPredec_4 "deadline" nOption_2 .null := ((f243.ext E244).keep K268 (ninS ne259 nin0))
      have t273 : Fld Z T268.heap b225 nPredec_4 "id" nMessag_5 .null := ((f242.ext E244).keep K268 (ninS ne259 nin0))
      have t274 : Exa Z T268.heap aE nOption_1 := ((t245.ext E244).keep K268)
      have t275 : Fld Z T268.heap aE nOption_1 "isPresent" "Z" (.int (0 : Int32)) := ((((t222.keep K223 (ninS ne183 nin0)).ext E225).ext E244).keep K268 (ninS ne246 nin0))
      obtain ⟨_, _, ⟨T276, L276, k276, n276⟩, -, X276, hSi276, hge276, ⟨Lc276, hQ276, l276, y276, z276⟩, st276⟩ := X270.specialBackS hx (y := my_42) rfl hown268 (mvT hZ268 (wq hw 102 rfl)) (mvT hZ268 (wq hw 103 rfl)) (mvT hZ268 (wq hw 104 rfl)) (by decide) (backOfS (W := 1) (rc44_init l Z a0 hw [] cs aE hS b225 b244 aE T268.heap n0 O269 g239 g260 t271 t272 t273 t274 t275) hZ268 (wq hw 104 rfl) (wq hw 63 rfl) (by decide) (by decide)) (g := (mkF m 113 #[.val (.long zA), .second, .val (.long zB), .second, .val (.int p2), .val (.int p3), .val (.int p4), .val (.ref x1_b3), .val (.long (own_max (1 : Int64) (zA &&& (9223372036854775807 : Int64)))), .second, .val (.long (own_max (1 : Int64) (zB &&& (9223372036854775807 : Int64)))), .second, .val (.int (0 : Int32)), .val (.ref b157), .val (.ref b181), .unset, .unset, .unset] [(.ref aE), (.ref b244), (.ref b225), (.ref b225)])) rfl (by rw [hml]; rfl) (Steps.refl _) (a := b225) (argsL := [(.ref b244), (.ref aE)]) (rest := [(.ref b225)]) (lenOf pd_26 rfl) rfl (by show 2 * 0 + _ ≤ _; exact Nat.le_of_eq rfl) (hb hby at_113) (fun _ _ => ⟨rfl, e270, (by decide : 20 + 4 ≤ _), (by decide : 285 + 48 ≤ _)⟩)
      dsimp only [Pt.U, Pt.locs, Pt.cells, Pt.slots] at X276 l276 y276 z276 st276 hQ276 hSi276 hge276
      have X276 := own_to X276 l276 y276 z276
      obtain ⟨X276r, hS276, hZ276, hown276⟩ := rebS hS268 (Nat.le_refl _) X276 hSi276 (by rw [← e270]; exact hge276) hZ268 hown268
      obtain ⟨rfl, N276q, K276, q276_0, q276_1, q276_2⟩ := hQ276
      have N276 := Fr.app N270 N276q
      have O277 : Old Z n0 T276.heap := Old.keep O269 K276 (allS g239 all0)
      have t278 : Exa Z T276.heap b157 nKnownO_3 := (((t251.ext E244).keep K268).keep K276)
      have t279 : Fld Z T276.heap b157 nKnownO_3 "named" nPredec_7 .null := ((((((((q173_3.ext E181).ext E195).keep K215 (ninS ne203 nin0)).keep K223 (ninS ne188 nin0)).ext E225).ext E244).keep K268 (ninS ne252 nin0)).keep K276 (ninS ne233 nin0))
      obtain ⟨cq280, kq280, q280a, q280b, q280c⟩ := isOf hZ276 rfl (t278)
      obtain ⟨_, _, ⟨T280, L280, k280, n280⟩, -, X280, ⟨Lc280, hQ280, l280, y280, z280⟩, st280⟩ := X276r.virtualBack hx (y := my_26) (z := my_26) hown276 (mvT hZ276 (wq hw 123 rfl)) (mvT hZ276 (wq hw 124 rfl)) (notFace_of_selects (args := #[]) (mvT hZ276 (wq hw 126 rfl))) (mvT hZ276 (wq hw 126 rfl)) (mvT hZ276 (wq hw 125 rfl)) (by decide) (backOf (W := 0) (rc48_isNamed l Z a0 hw [] cs aE hS b157 T276.heap n0 O277 g162 t279) hZ276 (wq hw 127 rfl) (wq hw 33 rfl) (by decide) (by decide)) q280a q280c (g := (mkF m 120 #[.val (.long zA), .second, .val (.long zB), .second, .val (.int p2), .val (.int p3), .val (.int p4), .val (.ref x1_b3), .val (.long (own_max (1 : Int64) (zA &&& (9223372036854775807 : Int64)))), .second, .val (.long (own_max (1 : Int64) (zB &&& (9223372036854775807 : Int64)))), .second, .val (.int (0 : Int32)), .val (.ref b157), .val (.ref b181), .val (.ref b225), .unset, .unset] [(.ref b157)])) rfl (by rw [hml]; rfl) (Steps.refl _) (argsL := []) (rest := []) (lenOf pd_14 rfl) rfl (by show 2 * 0 + _ ≤ _; exact Nat.le_of_eq rfl) (hb hby at_120) (fun _ _ => ⟨rfl, rfl, (by decide : 24 + 0 ≤ _), (by decide : 333 + 0 ≤ _)⟩)
      dsimp only [Pt.U, Pt.locs, Pt.cells, Pt.slots] at X280 l280 y280 z280 st280 hQ280
      have X280 := own_to X280 l280 y280 z280
      obtain ⟨rfl, N280q, e280⟩ := hQ280
      have N280 := Fr.app N276 N280q
      have t281 : Exa Z T276.heap b181 nPredec_4 := (((t257.ext E244).keep K268).keep K276)
      have t282 : Fld Z T276.heap b181 nPredec_4 "id" nMessag_5 (.ref b195) := ((((q223_2.ext E225).ext E244).keep K268 (ninS ne258 nin0)).keep K276 (ninS ne238 nin0))
      have t283 : Exa Z T276.heap b195 nMessag_6 := (((t255.ext E244).keep K268).keep K276)
      have t284 : Fld Z T276.heap b195 nMessag_6 "seq" "J" (.long (own_max (1 : Int64) (zA &&& (9223372036854775807 : Int64)))) := (((((q215_2.keep K223 (ninS (Ne.symm ne206) nin0)).ext E225).ext E244).keep K268 (ninS ne256 nin0)).keep K276 (ninS ne237 nin0))
      have t285 : Exa Z T276.heap b244 nMessag_6 := (q268_0.keep K276)
      have t286 : Fld Z T276.heap b244 nMessag_6 "seq" "J" (.long (own_max (1 : Int64) (zB &&& (9223372036854775807 : Int64)))) := (q268_2.keep K276 (ninS (Ne.symm ne259) nin0))
      have t287 : Fld Z T276.heap b157 nKnownO_3 "namedSeq" "J" (.long (0 : Int64)) := ((((((((q173_4.ext E181).ext E195).keep K215 (ninS ne203 nin0)).keep K223 (ninS ne188 nin0)).ext E225).ext E244).keep K268 (ninS ne252 nin0)).keep K276 (ninS ne233 nin0))
      have t288 : Fld Z T276.heap b157 nKnownO_3 "alsoNamed" nList_8 .null := ((((((((q173_1.ext E181).ext E195).keep K215 (ninS ne203 nin0)).keep K223 (ninS ne188 nin0)).ext E225).ext E244).keep K268 (ninS ne252 nin0)).keep K276 (ninS ne233 nin0))
      have inv289 : InvN Z n0 T276.heap b157 b181 b195 (own_max (1 : Int64) (zA &&& (9223372036854775807 : Int64))) b225 b244 (own_max (1 : Int64) (zB &&& (9223372036854775807 : Int64))) (0 : Int32) := ⟨⟨t278, g162, t281, t282, t283, t284, q276_0, q276_2, t285, t286⟩, Or.inl ⟨rfl, ⟨_, t279, t287, t288⟩⟩⟩
      obtain ⟨_, _, ⟨T290, L290, k290, n290⟩, -, X290, ⟨Lc290, hQ290, l290, y290, z290⟩, st290⟩ := Jvm.LawKit.callS X280 hx (y := my_4) hown276 (mvT hZ276 (wq hw 130 rfl)) (mvT hZ276 (wq hw 131 rfl)) (mvT hZ276 (wq hw 132 rfl)) (mvT hZ276 (wq hw 133 rfl)) (by decide) (backOf (W := 0) (rm_stepN l Z a0 hw [] cs aE hS b157 b181 b195 (own_max (1 : Int64) (zA &&& (9223372036854775807 : Int64))) b225 b244 (own_max (1 : Int64) (zB &&& (9223372036854775807 : Int64))) (p3 &&& (3 : Int32)) (0 : Int32) T276.heap n0 O277 hq (own_c3 _) inv289) hZ276 (wq hw 133 rfl) (wq hw 132 rfl) (by decide) (by decide)) (g := (mkF m 154 #[.val (.long zA), .second, .val (.long zB), .second, .val (.int p2), .val (.int p3), .val (.int p4), .val (.ref x1_b3), .val (.long (own_max (1 : Int64) (zA &&& (9223372036854775807 : Int64)))), .second, .val (.long (own_max (1 : Int64) (zB &&& (9223372036854775807 : Int64)))), .second, .val (.int (0 : Int32)), .val (.ref b157), .val (.ref b181), .val (.ref b225), .val (.int (1 : Int32)), .val (.int (0 : Int32))] [(.int (0 : Int32)), (.int (0 : Int32)), (.long (own_max (1 : Int64) (zB &&& (9223372036854775807 : Int64)))), (.long (own_max (1 : Int64) (zA &&& (9223372036854775807 : Int64)))), (.ref b225), (.ref b181), (.int (p3 &&& (3 : Int32))), (.ref b157)])) rfl (by rw [hml]; rfl) (argsL := [(.ref b157), (.int (p3 &&& (3 : Int32))), (.ref b181), (.ref b225), (.long (own_max (1 : Int64) (zA &&& (9223372036854775807 : Int64)))), (.long (own_max (1 : Int64) (zB &&& (9223372036854775807 : Int64)))), (.int (0 : Int32)), (.int (0 : Int32))]) (rest := []) (lenOf pd_27 rfl) rfl (by show 2 * 0 + _ ≤ _; exact Nat.le_of_eq rfl) (hb hby at_154) (fun _ _ => ⟨rfl, e280, (by decide : 24 + 2 ≤ _), (by decide : 333 + 4 ≤ _)⟩)
      dsimp only [Pt.U, Pt.locs, Pt.cells, Pt.slots] at X290 l290 y290 z290 st290 hQ290
      have X290 := own_to X290 l290 y290 z290
      obtain ⟨st290', rfl, N290q, siz290, OI290, inv290⟩ := hQ290
      have N290 := Fr.app N280 N290q
      have hk291 := Nat.le_trans (Nat.le_refl _) siz290
      obtain ⟨cq292, kq292, q292a, q292b, q292c⟩ := isOf hZ276 rfl (inv290.1.1)
      obtain ⟨_, _, ⟨T292, L292, k292, n292⟩, -, X292, ⟨Lc292, hQ292, l292, y292, z292⟩, st292⟩ := X290.virtualBack hx (y := my_26) (z := my_26) hown276 (mvT hZ276 (wq hw 123 rfl)) (mvT hZ276 (wq hw 124 rfl)) (notFace_of_selects (args := #[]) (mvT hZ276 (wq hw 126 rfl))) (mvT hZ276 (wq hw 126 rfl)) (mvT hZ276 (wq hw 125 rfl)) (by decide) (backOf (W := 1) (rm_isnN l Z a0 hw [] b157 b181 b195 (own_max (1 : Int64) (zA &&& (9223372036854775807 : Int64))) b225 b244 (own_max (1 : Int64) (zB &&& (9223372036854775807 : Int64))) (st290') T290.heap n0 inv290) hZ276 (wq hw 127 rfl) (wq hw 33 rfl) (by decide) (by decide)) q292a q292c (g := (mkF m 163 #[.val (.long zA), .second, .val (.long zB), .second, .val (.int p2), .val (.int p3), .val (.int p4), .val (.ref x1_b3), .val (.long (own_max (1 : Int64) (zA &&& (9223372036854775807 : Int64)))), .second, .val (.long (own_max (1 : Int64) (zB &&& (9223372036854775807 : Int64)))), .second, .val (.int (0 : Int32)), .val (.ref b157), .val (.ref b181), .val (.ref b225), .val (.int (1 : Int32)), .val (.int st290')] [(.ref b157), (.int (1 : Int32))])) rfl (by rw [hml]; rfl) (Steps.refl _) (argsL := []) (rest := [(.int (1 : Int32))]) (lenOf pd_14 rfl) rfl (by show 2 * 0 + _ ≤ _; exact Nat.le_of_eq rfl) (hb hby at_163) (fun _ _ => ⟨rfl, rfl, (by decide : 26 + 0 ≤ _), (by decide : 337 + 0 ≤ _)⟩)
      dsimp only [Pt.U, Pt.locs, Pt.cells, Pt.slots] at X292 l292 y292 z292 st292 hQ292
      have X292 := own_to X292 l292 y292 z292
      obtain ⟨rfl, N292q, e292⟩ := hQ292
      have N292 := Fr.app N290 N292q
      have mg293 : ∀ t, Steps p.tables e below (T292.setTop (mkF m 185 #[.val (.long zA), .second, .val (.long zB), .second, .val (.int p2), .val (.int p3), .val (.int p4), .val (.ref x1_b3), .val (.long (own_max (1 : Int64) (zA &&& (9223372036854775807 : Int64)))), .second, .val (.long (own_max (1 : Int64) (zB &&& (9223372036854775807 : Int64)))), .second, .val (.int (0 : Int32)), .val (.ref b157), .val (.ref b181), .val (.ref b225), .val (.int (1 : Int32)), .val (.int st290')] [(.int (1 : Int32))])) t → Steps p.tables e below (T292.setTop (mkF m 168 #[.val (.long zA), .second, .val (.long zB), .second, .val (.int p2), .val (.int p3), .val (.int p4), .val (.ref x1_b3), .val (.long (own_max (1 : Int64) (zA &&& (9223372036854775807 : Int64)))), .second, .val (.long (own_max (1 : Int64) (zB &&& (9223372036854775807 : Int64)))), .second, .val (.int (0 : Int32)), .val (.ref b157), .val (.ref b181), .val (.ref b225), .val (.int (1 : Int32)), .val (.int st290')] [(.int st290'), (.int (own_b (st290'))), (.int (1 : Int32))])) t := fun t kt => by
        by_cases hc168 : st290' = (0 : Int32)
        · refine XS.ifYes X292.here hx rfl (pc0 := 168) (pc' := 175) rfl (hb hby at_168) rfl ((if0 _ _).trans (teq hc168).1) (by decide) (by decide) ?_
          refine XS.iconst X292.here hx rfl (hb hby at_175) ?_
          refine XS.icmpNo X292.here hx rfl (hb hby at_176) rfl (teq (own_b0 hc168)).2 ?_
          refine XS.iconst X292.here hx rfl (hb hby at_179) ?_
          refine XS.goto X292.here hx rfl (pc0 := 180) (pc' := 184) rfl (hb hby at_180) (by decide) (by decide) ?_
          refine XS.iand X292.here hx rfl (hb hby at_184) rfl ?_
          show Steps p.tables e below (T292.setTop (mkF m 185 #[.val (.long zA), .second, .val (.long zB), .second, .val (.int p2), .val (.int p3), .val (.int p4), .val (.ref x1_b3), .val (.long (own_max (1 : Int64) (zA &&& (9223372036854775807 : Int64)))), .second, .val (.long (own_max (1 : Int64) (zB &&& (9223372036854775807 : Int64)))), .second, .val (.int (0 : Int32)), .val (.ref b157), .val (.ref b181), .val (.ref b225), .val (.int (1 : Int32)), .val (.int st290')] [(.int (1 : Int32))])) _
          exact kt
        · refine XS.ifNo X292.here hx rfl (hb hby at_168) rfl ((if0 _ _).trans (feq hc168).1) ?_
          refine XS.iconst X292.here hx rfl (hb hby at_171) ?_
          refine XS.goto X292.here hx rfl (pc0 := 172) (pc' := 176) rfl (hb hby at_172) (by decide) (by decide) ?_
          refine XS.icmpNo X292.here hx rfl (hb hby at_176) rfl (teq (own_b1 hc168)).2 ?_
          refine XS.iconst X292.here hx rfl (hb hby at_179) ?_
          refine XS.goto X292.here hx rfl (pc0 := 180) (pc' := 184) rfl (hb hby at_180) (by decide) (by decide) ?_
          refine XS.iand X292.here hx rfl (hb hby at_184) rfl ?_
          show Steps p.tables e below (T292.setTop (mkF m 185 #[.val (.long zA), .second, .val (.long zB), .second, .val (.int p2), .val (.int p3), .val (.int p4), .val (.ref x1_b3), .val (.long (own_max (1 : Int64) (zA &&& (9223372036854775807 : Int64)))), .second, .val (.long (own_max (1 : Int64) (zB &&& (9223372036854775807 : Int64)))), .second, .val (.int (0 : Int32)), .val (.ref b157), .val (.ref b181), .val (.ref b225), .val (.int (1 : Int32)), .val (.int st290')] [(.int (1 : Int32))])) _
          exact kt
      obtain ⟨_, _, ⟨T294, L294, k294, n294⟩, -, X294, ⟨Lc294, hQ294, l294, y294, z294⟩, st294⟩ := Jvm.LawKit.callS X292 hx (y := my_4) hown276 (mvT hZ276 (wq hw 130 rfl)) (mvT hZ276 (wq hw 131 rfl)) (mvT hZ276 (wq hw 132 rfl)) (mvT hZ276 (wq hw 133 rfl)) (by decide) (backOf (W := 0) (rm_stepN l Z a0 hw [] cs aE hS b157 b181 b195 (own_max (1 : Int64) (zA &&& (9223372036854775807 : Int64))) b225 b244 (own_max (1 : Int64) (zB &&& (9223372036854775807 : Int64))) ((p3 >>> ((2 : Int32) &&& 31)) &&& (3 : Int32)) (st290') T290.heap n0 OI290 hq (own_c3 _) inv290) hZ276 (wq hw 133 rfl) (wq hw 132 rfl) (by decide) (by decide)) (g := (mkF m 207 #[.val (.long zA), .second, .val (.long zB), .second, .val (.int p2), .val (.int p3), .val (.int p4), .val (.ref x1_b3), .val (.long (own_max (1 : Int64) (zA &&& (9223372036854775807 : Int64)))), .second, .val (.long (own_max (1 : Int64) (zB &&& (9223372036854775807 : Int64)))), .second, .val (.int (0 : Int32)), .val (.ref b157), .val (.ref b181), .val (.ref b225), .val (.int (1 : Int32)), .val (.int st290')] [(.int st290'), (.int (0 : Int32)), (.long (own_max (1 : Int64) (zB &&& (9223372036854775807 : Int64)))), (.long (own_max (1 : Int64) (zA &&& (9223372036854775807 : Int64)))), (.ref b225), (.ref b181), (.int ((p3 >>> ((2 : Int32) &&& 31)) &&& (3 : Int32))), (.ref b157)])) rfl (by rw [hml]; rfl) (argsL := [(.ref b157), (.int ((p3 >>> ((2 : Int32) &&& 31)) &&& (3 : Int32))), (.ref b181), (.ref b225), (.long (own_max (1 : Int64) (zA &&& (9223372036854775807 : Int64)))), (.long (own_max (1 : Int64) (zB &&& (9223372036854775807 : Int64)))), (.int (0 : Int32)), (.int st290')]) (rest := []) (lenOf pd_27 rfl) rfl (by show 2 * 0 + _ ≤ _; exact Nat.le_of_eq rfl) (hb hby at_207) (fun _ _ => ⟨rfl, e292, (by decide : 26 + 2 ≤ _), (by decide : 337 + 4 ≤ _)⟩)
      dsimp only [Pt.U, Pt.locs, Pt.cells, Pt.slots] at X294 l294 y294 z294 st294 hQ294
      have X294 := own_to X294 l294 y294 z294
      obtain ⟨st294', rfl, N294q, siz294, OI294, inv294⟩ := hQ294
      have N294 := Fr.app N292 N294q
      have hk295 := Nat.le_trans hk291 siz294
      obtain ⟨cq296, kq296, q296a, q296b, q296c⟩ := isOf hZ276 rfl (inv294.1.1)
      obtain ⟨_, _, ⟨T296, L296, k296, n296⟩, -, X296, ⟨Lc296, hQ296, l296, y296, z296⟩, st296⟩ := X294.virtualBack hx (y := my_26) (z := my_26) hown276 (mvT hZ276 (wq hw 123 rfl)) (mvT hZ276 (wq hw 124 rfl)) (notFace_of_selects (args := #[]) (mvT hZ276 (wq hw 126 rfl))) (mvT hZ276 (wq hw 126 rfl)) (mvT hZ276 (wq hw 125 rfl)) (by decide) (backOf (W := 1) (rm_isnN l Z a0 hw [] b157 b181 b195 (own_max (1 : Int64) (zA &&& (9223372036854775807 : Int64))) b225 b244 (own_max (1 : Int64) (zB &&& (9223372036854775807 : Int64))) (st294') T294.heap n0 inv294) hZ276 (wq hw 127 rfl) (wq hw 33 rfl) (by decide) (by decide)) q296a q296c (g := (mkF m 216 #[.val (.long zA), .second, .val (.long zB), .second, .val (.int p2), .val (.int p3), .val (.int p4), .val (.ref x1_b3), .val (.long (own_max (1 : Int64) (zA &&& (9223372036854775807 : Int64)))), .second, .val (.long (own_max (1 : Int64) (zB &&& (9223372036854775807 : Int64)))), .second, .val (.int (0 : Int32)), .val (.ref b157), .val (.ref b181), .val (.ref b225), .val (.int (1 : Int32)), .val (.int st294')] [(.ref b157), (.int (1 : Int32))])) rfl (by rw [hml]; rfl) (Steps.refl _) (argsL := []) (rest := [(.int (1 : Int32))]) (lenOf pd_14 rfl) rfl (by show 2 * 0 + _ ≤ _; exact Nat.le_of_eq rfl) (hb hby at_216) (fun _ _ => ⟨rfl, rfl, (by decide : 28 + 0 ≤ _), (by decide : 341 + 0 ≤ _)⟩)
      dsimp only [Pt.U, Pt.locs, Pt.cells, Pt.slots] at X296 l296 y296 z296 st296 hQ296
      have X296 := own_to X296 l296 y296 z296
      obtain ⟨rfl, N296q, e296⟩ := hQ296
      have N296 := Fr.app N294 N296q
      have mg297 : ∀ t, Steps p.tables e below (T296.setTop (mkF m 238 #[.val (.long zA), .second, .val (.long zB), .second, .val (.int p2), .val (.int p3), .val (.int p4), .val (.ref x1_b3), .val (.long (own_max (1 : Int64) (zA &&& (9223372036854775807 : Int64)))), .second, .val (.long (own_max (1 : Int64) (zB &&& (9223372036854775807 : Int64)))), .second, .val (.int (0 : Int32)), .val (.ref b157), .val (.ref b181), .val (.ref b225), .val (.int (1 : Int32)), .val (.int st294')] [(.int (1 : Int32))])) t → Steps p.tables e below (T296.setTop (mkF m 221 #[.val (.long zA), .second, .val (.long zB), .second, .val (.int p2), .val (.int p3), .val (.int p4), .val (.ref x1_b3), .val (.long (own_max (1 : Int64) (zA &&& (9223372036854775807 : Int64)))), .second, .val (.long (own_max (1 : Int64) (zB &&& (9223372036854775807 : Int64)))), .second, .val (.int (0 : Int32)), .val (.ref b157), .val (.ref b181), .val (.ref b225), .val (.int (1 : Int32)), .val (.int st294')] [(.int st294'), (.int (own_b (st294'))), (.int (1 : Int32))])) t := fun t kt => by
        by_cases hc221 : st294' = (0 : Int32)
        · refine XS.ifYes X296.here hx rfl (pc0 := 221) (pc' := 228) rfl (hb hby at_221) rfl ((if0 _ _).trans (teq hc221).1) (by decide) (by decide) ?_
          refine XS.iconst X296.here hx rfl (hb hby at_228) ?_
          refine XS.icmpNo X296.here hx rfl (hb hby at_229) rfl (teq (own_b0 hc221)).2 ?_
          refine XS.iconst X296.here hx rfl (hb hby at_232) ?_
          refine XS.goto X296.here hx rfl (pc0 := 233) (pc' := 237) rfl (hb hby at_233) (by decide) (by decide) ?_
          refine XS.iand X296.here hx rfl (hb hby at_237) rfl ?_
          show Steps p.tables e below (T296.setTop (mkF m 238 #[.val (.long zA), .second, .val (.long zB), .second, .val (.int p2), .val (.int p3), .val (.int p4), .val (.ref x1_b3), .val (.long (own_max (1 : Int64) (zA &&& (9223372036854775807 : Int64)))), .second, .val (.long (own_max (1 : Int64) (zB &&& (9223372036854775807 : Int64)))), .second, .val (.int (0 : Int32)), .val (.ref b157), .val (.ref b181), .val (.ref b225), .val (.int (1 : Int32)), .val (.int st294')] [(.int (1 : Int32))])) _
          exact kt
        · refine XS.ifNo X296.here hx rfl (hb hby at_221) rfl ((if0 _ _).trans (feq hc221).1) ?_
          refine XS.iconst X296.here hx rfl (hb hby at_224) ?_
          refine XS.goto X296.here hx rfl (pc0 := 225) (pc' := 229) rfl (hb hby at_225) (by decide) (by decide) ?_
          refine XS.icmpNo X296.here hx rfl (hb hby at_229) rfl (teq (own_b1 hc221)).2 ?_
          refine XS.iconst X296.here hx rfl (hb hby at_232) ?_
          refine XS.goto X296.here hx rfl (pc0 := 233) (pc' := 237) rfl (hb hby at_233) (by decide) (by decide) ?_
          refine XS.iand X296.here hx rfl (hb hby at_237) rfl ?_
          show Steps p.tables e below (T296.setTop (mkF m 238 #[.val (.long zA), .second, .val (.long zB), .second, .val (.int p2), .val (.int p3), .val (.int p4), .val (.ref x1_b3), .val (.long (own_max (1 : Int64) (zA &&& (9223372036854775807 : Int64)))), .second, .val (.long (own_max (1 : Int64) (zB &&& (9223372036854775807 : Int64)))), .second, .val (.int (0 : Int32)), .val (.ref b157), .val (.ref b181), .val (.ref b225), .val (.int (1 : Int32)), .val (.int st294')] [(.int (1 : Int32))])) _
          exact kt
      obtain ⟨_, _, ⟨T298, L298, k298, n298⟩, -, X298, ⟨Lc298, hQ298, l298, y298, z298⟩, st298⟩ := Jvm.LawKit.callS X296 hx (y := my_4) hown276 (mvT hZ276 (wq hw 130 rfl)) (mvT hZ276 (wq hw 131 rfl)) (mvT hZ276 (wq hw 132 rfl)) (mvT hZ276 (wq hw 133 rfl)) (by decide) (backOf (W := 0) (rm_stepN l Z a0 hw [] cs aE hS b157 b181 b195 (own_max (1 : Int64) (zA &&& (9223372036854775807 : Int64))) b225 b244 (own_max (1 : Int64) (zB &&& (9223372036854775807 : Int64))) ((p3 >>> ((4 : Int32) &&& 31)) &&& (3 : Int32)) (st294') T294.heap n0 OI294 hq (own_c3 _) inv294) hZ276 (wq hw 133 rfl) (wq hw 132 rfl) (by decide) (by decide)) (g := (mkF m 260 #[.val (.long zA), .second, .val (.long zB), .second, .val (.int p2), .val (.int p3), .val (.int p4), .val (.ref x1_b3), .val (.long (own_max (1 : Int64) (zA &&& (9223372036854775807 : Int64)))), .second, .val (.long (own_max (1 : Int64) (zB &&& (9223372036854775807 : Int64)))), .second, .val (.int (0 : Int32)), .val (.ref b157), .val (.ref b181), .val (.ref b225), .val (.int (1 : Int32)), .val (.int st294')] [(.int st294'), (.int (0 : Int32)), (.long (own_max (1 : Int64) (zB &&& (9223372036854775807 : Int64)))), (.long (own_max (1 : Int64) (zA &&& (9223372036854775807 : Int64)))), (.ref b225), (.ref b181), (.int ((p3 >>> ((4 : Int32) &&& 31)) &&& (3 : Int32))), (.ref b157)])) rfl (by rw [hml]; rfl) (argsL := [(.ref b157), (.int ((p3 >>> ((4 : Int32) &&& 31)) &&& (3 : Int32))), (.ref b181), (.ref b225), (.long (own_max (1 : Int64) (zA &&& (9223372036854775807 : Int64)))), (.long (own_max (1 : Int64) (zB &&& (9223372036854775807 : Int64)))), (.int (0 : Int32)), (.int st294')]) (rest := []) (lenOf pd_27 rfl) rfl (by show 2 * 0 + _ ≤ _; exact Nat.le_of_eq rfl) (hb hby at_260) (fun _ _ => ⟨rfl, e296, (by decide : 28 + 2 ≤ _), (by decide : 341 + 4 ≤ _)⟩)
      dsimp only [Pt.U, Pt.locs, Pt.cells, Pt.slots] at X298 l298 y298 z298 st298 hQ298
      have X298 := own_to X298 l298 y298 z298
      obtain ⟨st298', rfl, N298q, siz298, OI298, inv298⟩ := hQ298
      have N298 := Fr.app N296 N298q
      have hk299 := Nat.le_trans hk295 siz298
      obtain ⟨cq300, kq300, q300a, q300b, q300c⟩ := isOf hZ276 rfl (inv298.1.1)
      obtain ⟨_, _, ⟨T300, L300, k300, n300⟩, -, X300, ⟨Lc300, hQ300, l300, y300, z300⟩, st300⟩ := X298.virtualBack hx (y := my_26) (z := my_26) hown276 (mvT hZ276 (wq hw 123 rfl)) (mvT hZ276 (wq hw 124 rfl)) (notFace_of_selects (args := #[]) (mvT hZ276 (wq hw 126 rfl))) (mvT hZ276 (wq hw 126 rfl)) (mvT hZ276 (wq hw 125 rfl)) (by decide) (backOf (W := 1) (rm_isnN l Z a0 hw [] b157 b181 b195 (own_max (1 : Int64) (zA &&& (9223372036854775807 : Int64))) b225 b244 (own_max (1 : Int64) (zB &&& (9223372036854775807 : Int64))) (st298') T298.heap n0 inv298) hZ276 (wq hw 127 rfl) (wq hw 33 rfl) (by decide) (by decide)) q300a q300c (g := (mkF m 269 #[.val (.long zA), .second, .val (.long zB), .second, .val (.int p2), .val (.int p3), .val (.int p4), .val (.ref x1_b3), .val (.long (own_max (1 : Int64) (zA &&& (9223372036854775807 : Int64)))), .second, .val (.long (own_max (1 : Int64) (zB &&& (9223372036854775807 : Int64)))), .second, .val (.int (0 : Int32)), .val (.ref b157), .val (.ref b181), .val (.ref b225), .val (.int (1 : Int32)), .val (.int st298')] [(.ref b157), (.int (1 : Int32))])) rfl (by rw [hml]; rfl) (Steps.refl _) (argsL := []) (rest := [(.int (1 : Int32))]) (lenOf pd_14 rfl) rfl (by show 2 * 0 + _ ≤ _; exact Nat.le_of_eq rfl) (hb hby at_269) (fun _ _ => ⟨rfl, rfl, (by decide : 30 + 0 ≤ _), (by decide : 345 + 0 ≤ _)⟩)
      dsimp only [Pt.U, Pt.locs, Pt.cells, Pt.slots] at X300 l300 y300 z300 st300 hQ300
      have X300 := own_to X300 l300 y300 z300
      obtain ⟨rfl, N300q, e300⟩ := hQ300
      have N300 := Fr.app N298 N300q
      have mg301 : ∀ t, Steps p.tables e below (T300.setTop (mkF m 291 #[.val (.long zA), .second, .val (.long zB), .second, .val (.int p2), .val (.int p3), .val (.int p4), .val (.ref x1_b3), .val (.long (own_max (1 : Int64) (zA &&& (9223372036854775807 : Int64)))), .second, .val (.long (own_max (1 : Int64) (zB &&& (9223372036854775807 : Int64)))), .second, .val (.int (0 : Int32)), .val (.ref b157), .val (.ref b181), .val (.ref b225), .val (.int (1 : Int32)), .val (.int st298')] [(.int (1 : Int32))])) t → Steps p.tables e below (T300.setTop (mkF m 274 #[.val (.long zA), .second, .val (.long zB), .second, .val (.int p2), .val (.int p3), .val (.int p4), .val (.ref x1_b3), .val (.long (own_max (1 : Int64) (zA &&& (9223372036854775807 : Int64)))), .second, .val (.long (own_max (1 : Int64) (zB &&& (9223372036854775807 : Int64)))), .second, .val (.int (0 : Int32)), .val (.ref b157), .val (.ref b181), .val (.ref b225), .val (.int (1 : Int32)), .val (.int st298')] [(.int st298'), (.int (own_b (st298'))), (.int (1 : Int32))])) t := fun t kt => by
        by_cases hc274 : st298' = (0 : Int32)
        · refine XS.ifYes X300.here hx rfl (pc0 := 274) (pc' := 281) rfl (hb hby at_274) rfl ((if0 _ _).trans (teq hc274).1) (by decide) (by decide) ?_
          refine XS.iconst X300.here hx rfl (hb hby at_281) ?_
          refine XS.icmpNo X300.here hx rfl (hb hby at_282) rfl (teq (own_b0 hc274)).2 ?_
          refine XS.iconst X300.here hx rfl (hb hby at_285) ?_
          refine XS.goto X300.here hx rfl (pc0 := 286) (pc' := 290) rfl (hb hby at_286) (by decide) (by decide) ?_
          refine XS.iand X300.here hx rfl (hb hby at_290) rfl ?_
          show Steps p.tables e below (T300.setTop (mkF m 291 #[.val (.long zA), .second, .val (.long zB), .second, .val (.int p2), .val (.int p3), .val (.int p4), .val (.ref x1_b3), .val (.long (own_max (1 : Int64) (zA &&& (9223372036854775807 : Int64)))), .second, .val (.long (own_max (1 : Int64) (zB &&& (9223372036854775807 : Int64)))), .second, .val (.int (0 : Int32)), .val (.ref b157), .val (.ref b181), .val (.ref b225), .val (.int (1 : Int32)), .val (.int st298')] [(.int (1 : Int32))])) _
          exact kt
        · refine XS.ifNo X300.here hx rfl (hb hby at_274) rfl ((if0 _ _).trans (feq hc274).1) ?_
          refine XS.iconst X300.here hx rfl (hb hby at_277) ?_
          refine XS.goto X300.here hx rfl (pc0 := 278) (pc' := 282) rfl (hb hby at_278) (by decide) (by decide) ?_
          refine XS.icmpNo X300.here hx rfl (hb hby at_282) rfl (teq (own_b1 hc274)).2 ?_
          refine XS.iconst X300.here hx rfl (hb hby at_285) ?_
          refine XS.goto X300.here hx rfl (pc0 := 286) (pc' := 290) rfl (hb hby at_286) (by decide) (by decide) ?_
          refine XS.iand X300.here hx rfl (hb hby at_290) rfl ?_
          show Steps p.tables e below (T300.setTop (mkF m 291 #[.val (.long zA), .second, .val (.long zB), .second, .val (.int p2), .val (.int p3), .val (.int p4), .val (.ref x1_b3), .val (.long (own_max (1 : Int64) (zA &&& (9223372036854775807 : Int64)))), .second, .val (.long (own_max (1 : Int64) (zB &&& (9223372036854775807 : Int64)))), .second, .val (.int (0 : Int32)), .val (.ref b157), .val (.ref b181), .val (.ref b225), .val (.int (1 : Int32)), .val (.int st298')] [(.int (1 : Int32))])) _
          exact kt
      obtain ⟨fs, hr, hrun, hended, hEW⟩ := Jvm.Stand.leaveW X300 hS276 (by rw [e300]; exact hk299) (v := (some (.int (1 : Int32)))) (fun h => by rw [Bd.returns] at h; cases h)
      refine ⟨_, _, gp11 _ ?_, hrun, hended, _, _, rfl, ?_, ⟨_, rfl⟩, hEW.2.1, hEW.2.2.1, hEW.2.2.2.mono (by decide) (by decide)⟩
      · refine XS.ifYes X10.here hx rfl (pc0 := 51) (pc' := 58) rfl (hb hby at_51) rfl ((if0 _ _).trans (feq (fun q => hq ((lw_eq _ _).mp q))).2) (by decide) (by decide) ?_
        refine XS.iconst X10.here hx rfl (hb hby at_58) ?_
        refine XS.istore X10.here hx rfl (hb hby at_59) rfl (l' := #[.val (.long zA), .second, .val (.long zB), .second, .val (.int p2), .val (.int p3), .val (.int p4), .val (.ref x1_b3), .val (.long (own_max (1 : Int64) (zA &&& (9223372036854775807 : Int64)))), .second, .val (.long (own_max (1 : Int64) (zB &&& (9223372036854775807 : Int64)))), .second, .val (.int (0 : Int32)), .unset, .unset, .unset, .unset, .unset]) rfl ?_
        refine st157 _ ?_
        refine XS.dup X157.here hx rfl (hb hby at_64) rfl rfl ?_
        refine XS.aload X157.here hx rfl (hb hby at_65) rfl rfl ?_
        refine st173.trans ?_
        refine XS.astore X173.here hx rfl (hb hby at_70) rfl rfl (l' := #[.val (.long zA), .second, .val (.long zB), .second, .val (.int p2), .val (.int p3), .val (.int p4), .val (.ref x1_b3), .val (.long (own_max (1 : Int64) (zA &&& (9223372036854775807 : Int64)))), .second, .val (.long (own_max (1 : Int64) (zB &&& (9223372036854775807 : Int64)))), .second, .val (.int (0 : Int32)), .val (.ref b157), .unset, .unset, .unset, .unset]) rfl ?_
        refine st181 _ ?_
        refine XS.dup X181.here hx rfl (hb hby at_75) rfl rfl ?_
        refine st195 _ ?_
        refine XS.dup X195.here hx rfl (hb hby at_79) rfl rfl ?_
        refine XS.aload X195.here hx rfl (hb hby at_80) rfl rfl ?_
        refine XS.lload X195.here hx rfl (hb hby at_82) rfl ?_
        refine st215.trans ?_
        refine st217 _ ?_
        refine st223.trans ?_
        refine XS.astore X223r.here hx rfl (hb hby at_93) rfl rfl (l' := #[.val (.long zA), .second, .val (.long zB), .second, .val (.int p2), .val (.int p3), .val (.int p4), .val (.ref x1_b3), .val (.long (own_max (1 : Int64) (zA &&& (9223372036854775807 : Int64)))), .second, .val (.long (own_max (1 : Int64) (zB &&& (9223372036854775807 : Int64)))), .second, .val (.int (0 : Int32)), .val (.ref b157), .val (.ref b181), .unset, .unset, .unset]) rfl ?_
        refine st225 _ ?_
        refine XS.dup X225.here hx rfl (hb hby at_98) rfl rfl ?_
        refine st244 _ ?_
        refine XS.dup X244.here hx rfl (hb hby at_102) rfl rfl ?_
        refine XS.aload X244.here hx rfl (hb hby at_103) rfl rfl ?_
        refine XS.lload X244.here hx rfl (hb hby at_105) rfl ?_
        refine st268.trans ?_
        refine st270 _ ?_
        refine st276.trans ?_
        refine XS.astore X276r.here hx rfl (hb hby at_116) rfl rfl (l' := #[.val (.long zA), .second, .val (.long zB), .second, .val (.int p2), .val (.int p3), .val (.int p4), .val (.ref x1_b3), .val (.long (own_max (1 : Int64) (zA &&& (9223372036854775807 : Int64)))), .second, .val (.long (own_max (1 : Int64) (zB &&& (9223372036854775807 : Int64)))), .second, .val (.int (0 : Int32)), .val (.ref b157), .val (.ref b181), .val (.ref b225), .unset, .unset]) rfl ?_
        refine XS.aload X276r.here hx rfl (hb hby at_118) rfl rfl ?_
        refine st280.trans ?_
        refine XS.ifNo X280.here hx rfl (hb hby at_123) rfl ((if0 _ _).trans (teq (by decide : (0 : Int32) = (0 : Int32))).2) ?_
        refine XS.iconst X280.here hx rfl (hb hby at_126) ?_
        refine XS.goto X280.here hx rfl (pc0 := 127) (pc' := 131) rfl (hb hby at_127) (by decide) (by decide) ?_
        refine XS.istore X280.here hx rfl (hb hby at_131) rfl (l' := #[.val (.long zA), .second, .val (.long zB), .second, .val (.int p2), .val (.int p3), .val (.int p4), .val (.ref x1_b3), .val (.long (own_max (1 : Int64) (zA &&& (9223372036854775807 : Int64)))), .second, .val (.long (own_max (1 : Int64) (zB &&& (9223372036854775807 : Int64)))), .second, .val (.int (0 : Int32)), .val (.ref b157), .val (.ref b181), .val (.ref b225), .val (.int (1 : Int32)), .unset]) rfl ?_
        refine XS.iconst X280.here hx rfl (hb hby at_133) ?_
        refine XS.istore X280.here hx rfl (hb hby at_134) rfl (l' := #[.val (.long zA), .second, .val (.long zB), .second, .val (.int p2), .val (.int p3), .val (.int p4), .val (.ref x1_b3), .val (.long (own_max (1 : Int64) (zA &&& (9223372036854775807 : Int64)))), .second, .val (.long (own_max (1 : Int64) (zB &&& (9223372036854775807 : Int64)))), .second, .val (.int (0 : Int32)), .val (.ref b157), .val (.ref b181), .val (.ref b225), .val (.int (1 : Int32)), .val (.int (0 : Int32))]) rfl ?_
        refine XS.aload X280.here hx rfl (hb hby at_136) rfl rfl ?_
        refine XS.iload X280.here hx rfl (hb hby at_138) rfl ?_
        refine XS.iconst X280.here hx rfl (hb hby at_140) ?_
        refine XS.iand X280.here hx rfl (hb hby at_141) rfl ?_
        refine XS.aload X280.here hx rfl (hb hby at_142) rfl rfl ?_
        refine XS.aload X280.here hx rfl (hb hby at_144) rfl rfl ?_
        refine XS.lload X280.here hx rfl (hb hby at_146) rfl ?_
        refine XS.lload X280.here hx rfl (hb hby at_148) rfl ?_
        refine XS.iload X280.here hx rfl (hb hby at_150) rfl ?_
        refine XS.iload X280.here hx rfl (hb hby at_152) rfl ?_
        refine st290 _ ?_
        refine XS.istore X290.here hx rfl (hb hby at_157) rfl (l' := #[.val (.long zA), .second, .val (.long zB), .second, .val (.int p2), .val (.int p3), .val (.int p4), .val (.ref x1_b3), .val (.long (own_max (1 : Int64) (zA &&& (9223372036854775807 : Int64)))), .second, .val (.long (own_max (1 : Int64) (zB &&& (9223372036854775807 : Int64)))), .second, .val (.int (0 : Int32)), .val (.ref b157), .val (.ref b181), .val (.ref b225), .val (.int (1 : Int32)), .val (.int st290')]) rfl ?_
        refine XS.iload X290.here hx rfl (hb hby at_159) rfl ?_
        refine XS.aload X290.here hx rfl (hb hby at_161) rfl rfl ?_
        refine st292.trans ?_
        refine XS.iload X292.here hx rfl (hb hby at_166) rfl ?_
        refine mg293 _ ?_
        refine XS.istore X292.here hx rfl (hb hby at_185) rfl (l' := #[.val (.long zA), .second, .val (.long zB), .second, .val (.int p2), .val (.int p3), .val (.int p4), .val (.ref x1_b3), .val (.long (own_max (1 : Int64) (zA &&& (9223372036854775807 : Int64)))), .second, .val (.long (own_max (1 : Int64) (zB &&& (9223372036854775807 : Int64)))), .second, .val (.int (0 : Int32)), .val (.ref b157), .val (.ref b181), .val (.ref b225), .val (.int (1 : Int32)), .val (.int st290')]) rfl ?_
        refine XS.aload X292.here hx rfl (hb hby at_187) rfl rfl ?_
        refine XS.iload X292.here hx rfl (hb hby at_189) rfl ?_
        refine XS.iconst X292.here hx rfl (hb hby at_191) ?_
        refine XS.ishr X292.here hx rfl (hb hby at_192) rfl ?_
        refine XS.iconst X292.here hx rfl (hb hby at_193) ?_
        refine XS.iand X292.here hx rfl (hb hby at_194) rfl ?_
        refine XS.aload X292.here hx rfl (hb hby at_195) rfl rfl ?_
        refine XS.aload X292.here hx rfl (hb hby at_197) rfl rfl ?_
        refine XS.lload X292.here hx rfl (hb hby at_199) rfl ?_
        refine XS.lload X292.here hx rfl (hb hby at_201) rfl ?_
        refine XS.iload X292.here hx rfl (hb hby at_203) rfl ?_
        refine XS.iload X292.here hx rfl (hb hby at_205) rfl ?_
        refine st294 _ ?_
        refine XS.istore X294.here hx rfl (hb hby at_210) rfl (l' := #[.val (.long zA), .second, .val (.long zB), .second, .val (.int p2), .val (.int p3), .val (.int p4), .val (.ref x1_b3), .val (.long (own_max (1 : Int64) (zA &&& (9223372036854775807 : Int64)))), .second, .val (.long (own_max (1 : Int64) (zB &&& (9223372036854775807 : Int64)))), .second, .val (.int (0 : Int32)), .val (.ref b157), .val (.ref b181), .val (.ref b225), .val (.int (1 : Int32)), .val (.int st294')]) rfl ?_
        refine XS.iload X294.here hx rfl (hb hby at_212) rfl ?_
        refine XS.aload X294.here hx rfl (hb hby at_214) rfl rfl ?_
        refine st296.trans ?_
        refine XS.iload X296.here hx rfl (hb hby at_219) rfl ?_
        refine mg297 _ ?_
        refine XS.istore X296.here hx rfl (hb hby at_238) rfl (l' := #[.val (.long zA), .second, .val (.long zB), .second, .val (.int p2), .val (.int p3), .val (.int p4), .val (.ref x1_b3), .val (.long (own_max (1 : Int64) (zA &&& (9223372036854775807 : Int64)))), .second, .val (.long (own_max (1 : Int64) (zB &&& (9223372036854775807 : Int64)))), .second, .val (.int (0 : Int32)), .val (.ref b157), .val (.ref b181), .val (.ref b225), .val (.int (1 : Int32)), .val (.int st294')]) rfl ?_
        refine XS.aload X296.here hx rfl (hb hby at_240) rfl rfl ?_
        refine XS.iload X296.here hx rfl (hb hby at_242) rfl ?_
        refine XS.iconst X296.here hx rfl (hb hby at_244) ?_
        refine XS.ishr X296.here hx rfl (hb hby at_245) rfl ?_
        refine XS.iconst X296.here hx rfl (hb hby at_246) ?_
        refine XS.iand X296.here hx rfl (hb hby at_247) rfl ?_
        refine XS.aload X296.here hx rfl (hb hby at_248) rfl rfl ?_
        refine XS.aload X296.here hx rfl (hb hby at_250) rfl rfl ?_
        refine XS.lload X296.here hx rfl (hb hby at_252) rfl ?_
        refine XS.lload X296.here hx rfl (hb hby at_254) rfl ?_
        refine XS.iload X296.here hx rfl (hb hby at_256) rfl ?_
        refine XS.iload X296.here hx rfl (hb hby at_258) rfl ?_
        refine st298 _ ?_
        refine XS.istore X298.here hx rfl (hb hby at_263) rfl (l' := #[.val (.long zA), .second, .val (.long zB), .second, .val (.int p2), .val (.int p3), .val (.int p4), .val (.ref x1_b3), .val (.long (own_max (1 : Int64) (zA &&& (9223372036854775807 : Int64)))), .second, .val (.long (own_max (1 : Int64) (zB &&& (9223372036854775807 : Int64)))), .second, .val (.int (0 : Int32)), .val (.ref b157), .val (.ref b181), .val (.ref b225), .val (.int (1 : Int32)), .val (.int st298')]) rfl ?_
        refine XS.iload X298.here hx rfl (hb hby at_265) rfl ?_
        refine XS.aload X298.here hx rfl (hb hby at_267) rfl rfl ?_
        refine st300.trans ?_
        refine XS.iload X300.here hx rfl (hb hby at_272) rfl ?_
        refine mg301 _ ?_
        refine XS.istore X300.here hx rfl (hb hby at_291) rfl (l' := #[.val (.long zA), .second, .val (.long zB), .second, .val (.int p2), .val (.int p3), .val (.int p4), .val (.ref x1_b3), .val (.long (own_max (1 : Int64) (zA &&& (9223372036854775807 : Int64)))), .second, .val (.long (own_max (1 : Int64) (zB &&& (9223372036854775807 : Int64)))), .second, .val (.int (0 : Int32)), .val (.ref b157), .val (.ref b181), .val (.ref b225), .val (.int (1 : Int32)), .val (.int st298')]) rfl ?_
        refine XS.iload X300.here hx rfl (hb hby at_293) rfl ?_
        exact retN X300 hx (t := .boolean) Bd.returns (by simp) (hb hby at_295) hr
      · show Q0 n0 _ T300.heap _
        rw [e300]
        exact ⟨rfl, N300⟩
  · obtain ⟨T302, h302, X302, e302, E302, A302, D302, -, st302⟩ := newO X8 hx hZ0 hown0 (wq hw 31 rfl) (wq hw 32 rfl) (wq hw 33 rfl) e8 (g := (mkF m 61 #[.val (.long zA), .second, .val (.long zB), .second, .val (.int p2), .val (.int p3), .val (.int p4), .val (.ref x1_b3), .val (.long (own_max (1 : Int64) (zA &&& (9223372036854775807 : Int64)))), .second, .val (.long (own_max (1 : Int64) (zA &&& (9223372036854775807 : Int64)))), .second, .val (.int (1 : Int32)), .unset, .unset, .unset, .unset, .unset] [])) rfl (hb hby at_61) (by decide) (by decide)
    obtain ⟨b302, gb302⟩ : ∃ z, z = T1.heap.size := ⟨_, rfl⟩
    rw [← gb302] at A302 D302 st302
    have t303 : Exa Z T1.heap aE nOption_1 := ((hS.2.2.2.1.ext O0.2).keep K1)
    have ne304 : aE ≠ b302 := Nat.ne_of_lt (Nat.lt_of_lt_of_le t303.lt (Nat.le_of_eq gb302.symm))
    have ne305 : x1_b3 ≠ b302 := Nat.ne_of_lt (Nat.lt_of_lt_of_le q1_0.lt (Nat.le_of_eq gb302.symm))
    have ne306 : x1_x10_b1 ≠ b302 := Nat.ne_of_lt (Nat.lt_of_lt_of_le q1_3.lt (Nat.le_of_eq gb302.symm))
    have g307 : n0 ≤ b302 := Nat.le_trans (Nat.le_of_eq O6.1.symm) (Nat.le_trans O6.2.1 (Nat.le_of_eq gb302.symm))
    have O308 : Old Z n0 h302 := Old.ext O6 E302
    have hk309 := Nat.le_trans hk7 E302.1
    have f310 : Fld Z h302 b302 nKnownO_3 "runs" "Ljava/util/NavigableMap;" .null := D302 (Or.inr (wq hw 58 rfl)) (ty := (.object "java/util/NavigableMap")) (by decide)
    have f311 : Fld Z h302 b302 nKnownO_3 "identifier" "Ljava/lang/String;" .null := D302 (Or.inr (wq hw 60 rfl)) (ty := (.object nString_0)) (by decide)
    have f312 : Fld Z h302 b302 nKnownO_3 "named" nPredec_7 .null := D302 (Or.inl (wq hw 129 rfl)) (ty := (.object nPredec_4)) (by decide)
    have f313 : Fld Z h302 b302 nKnownO_3 "namedSeq" "J" (.long (0 : Int64)) := D302 (Or.inl (wq hw 155 rfl)) (ty := .long) (by decide)
    have f314 : Fld Z h302 b302 nKnownO_3 "alsoNamed" nList_8 .null := D302 (Or.inl (wq hw 157 rfl)) (ty := (.object "java/util/List")) (by decide)
    have t315 : Exa Z h302 x1_b3 nString_0 := (q1_0.ext E302)
    have t316 : Arv Z h302 x1_x10_b1 x1_x10_k1 .byte (1 : Int32) [(.int (nar .byte (((p4 &&& (255 : Int32)).toUInt32.toUInt16.toUInt32.toInt32).toInt8.toInt32)))] (.int (0 : Int32)) := (q1_3.ext E302)
    have t317 : Exa Z h302 aE nOption_1 := (t303.ext E302)
    obtain ⟨_, _, ⟨T318, L318, k318, n318⟩, -, X318, ⟨Lc318, hQ318, l318, y318, z318⟩, st318⟩ := X302.specialBack hx (y := my_33) rfl hown0 (mvT hZ0 (wq hw 34 rfl)) (mvT hZ0 (wq hw 35 rfl)) (mvT hZ0 (wq hw 36 rfl)) (by decide) (backOf (W := 1) (rc35_init l Z a0 hw [] cs aE hS b302 x1_b3 x1_x10_b1 x1_x10_k1 (nar .byte (((p4 &&& (255 : Int32)).toUInt32.toUInt16.toUInt32.toInt32).toInt8.toInt32)) h302 n0 O308 g2 g4 g307 A302 f314 f311 f312 f313 f310 t315 t316) hZ0 (wq hw 36 rfl) (wq hw 33 rfl) (by decide) (by decide)) (g := (mkF m 67 #[.val (.long zA), .second, .val (.long zB), .second, .val (.int p2), .val (.int p3), .val (.int p4), .val (.ref x1_b3), .val (.long (own_max (1 : Int64) (zA &&& (9223372036854775807 : Int64)))), .second, .val (.long (own_max (1 : Int64) (zA &&& (9223372036854775807 : Int64)))), .second, .val (.int (1 : Int32)), .unset, .unset, .unset, .unset, .unset] [(.ref x1_b3), (.ref b302), (.ref b302)])) rfl (by rw [hml]; rfl) (Steps.refl _) (a := b302) (argsL := [(.ref x1_b3)]) (rest := [(.ref b302)]) (lenOf pd_20 rfl) rfl (by show 2 * 0 + _ ≤ _; exact Nat.le_of_eq rfl) (hb hby at_67) (fun _ _ => ⟨rfl, e302, (by decide : 3 + 1 ≤ _), (by decide : 12 + 9 ≤ _)⟩)
    dsimp only [Pt.U, Pt.locs, Pt.cells, Pt.slots] at X318 l318 y318 z318 st318 hQ318
    have X318 := own_to X318 l318 y318 z318
    obtain ⟨x318_b2, rfl, N318q, K318, sz318_b2, q318_0, q318_1, q318_2, q318_3, q318_4, q318_5, q318_6, q318_7, q318_8, q318_9⟩ := hQ318
    have N318 := Fr.app N8 N318q
    have g319 : n0 ≤ x318_b2 := Nat.le_trans (Nat.le_of_eq O308.1.symm) (Nat.le_trans O308.2.1 sz318_b2)
    have ne320 : aE ≠ x318_b2 := Nat.ne_of_lt (Nat.lt_of_lt_of_le t317.lt sz318_b2)
    have ne321 : x1_b3 ≠ x318_b2 := Nat.ne_of_lt (Nat.lt_of_lt_of_le t315.lt sz318_b2)
    have ne322 : x1_x10_b1 ≠ x318_b2 := Nat.ne_of_lt (Nat.lt_of_lt_of_le t316.lt sz318_b2)
    have ne323 : b302 ≠ x318_b2 := Nat.ne_of_lt (Nat.lt_of_lt_of_le A302.lt sz318_b2)
    have O324 : Old Z n0 T318.heap := Old.keep O308 K318 (allS g307 all0)
    have hk325 := Nat.le_trans hk309 K318.1
    obtain ⟨T326, h326, X326, e326, E326, A326, D326, -, st326⟩ := newO X318 hx hZ0 hown0 (wq hw 61 rfl) (wq hw 62 rfl) (wq hw 63 rfl) rfl (g := (mkF m 72 #[.val (.long zA), .second, .val (.long zB), .second, .val (.int p2), .val (.int p3), .val (.int p4), .val (.ref x1_b3), .val (.long (own_max (1 : Int64) (zA &&& (9223372036854775807 : Int64)))), .second, .val (.long (own_max (1 : Int64) (zA &&& (9223372036854775807 : Int64)))), .second, .val (.int (1 : Int32)), .val (.ref b302), .unset, .unset, .unset, .unset] [])) rfl (hb hby at_72) (by decide) (by decide)
    obtain ⟨b326, gb326⟩ : ∃ z, z = T318.heap.size := ⟨_, rfl⟩
    rw [← gb326] at A326 D326 st326
    have t327 : Exa Z T318.heap aE nOption_1 := (t317.keep K318)
    have ne328 : aE ≠ b326 := Nat.ne_of_lt (Nat.lt_of_lt_of_le t327.lt (Nat.le_of_eq gb326.symm))
    have t329 : Exa Z T318.heap x1_b3 nString_0 := (t315.keep K318)
    have ne330 : x1_b3 ≠ b326 := Nat.ne_of_lt (Nat.lt_of_lt_of_le t329.lt (Nat.le_of_eq gb326.symm))
    have t331 : Arv Z T318.heap x1_x10_b1 x1_x10_k1 .byte (1 : Int32) [(.int (nar .byte (((p4 &&& (255 : Int32)).toUInt32.toUInt16.toUInt32.toInt32).toInt8.toInt32)))] (.int (0 : Int32)) := (t316.keep K318 (ninS ne306 nin0))
    have ne332 : x1_x10_b1 ≠ b326 := Nat.ne_of_lt (Nat.lt_of_lt_of_le t331.lt (Nat.le_of_eq gb326.symm))
    have ne333 : b302 ≠ b326 := Nat.ne_of_lt (Nat.lt_of_lt_of_le q318_0.lt (Nat.le_of_eq gb326.symm))
    have ne334 : x318_b2 ≠ b326 := Nat.ne_of_lt (Nat.lt_of_lt_of_le q318_6.lt (Nat.le_of_eq gb326.symm))
    have g335 : n0 ≤ b326 := Nat.le_trans (Nat.le_of_eq O324.1.symm) (Nat.le_trans O324.2.1 (Nat.le_of_eq gb326.symm))
    have O336 : Old Z n0 h326 := Old.ext O324 E326
    have hk337 := Nat.le_trans hk325 E326.1
    have f338 : Fld Z h326 b326 nPredec_4 "id" nMessag_5 .null := D326 (Or.inr (wq hw 120 rfl)) (ty := (.object nMessag_6)) (by decide)
    have f339 : Fld Z h326 b326 nPredec_4 "deadline" nOption_2 .null := D326 (Or.inr (wq hw 122 rfl)) (ty := (.object nOption_1)) (by decide)
    obtain ⟨T340, h340, X340, e340, E340, A340, D340, -, st340⟩ := newO X326 hx hZ0 hown0 (wq hw 64 rfl) (wq hw 65 rfl) (wq hw 66 rfl) e326 (g := (mkF m 76 #[.val (.long zA), .second, .val (.long zB), .second, .val (.int p2), .val (.int p3), .val (.int p4), .val (.ref x1_b3), .val (.long (own_max (1 : Int64) (zA &&& (9223372036854775807 : Int64)))), .second, .val (.long (own_max (1 : Int64) (zA &&& (9223372036854775807 : Int64)))), .second, .val (.int (1 : Int32)), .val (.ref b302), .unset, .unset, .unset, .unset] [(.ref b326), (.ref b326)])) rfl (hb hby at_76) (by decide) (by decide)
    obtain ⟨b340, gb340⟩ : ∃ z, z = h326.size := ⟨_, rfl⟩
    rw [← gb340] at A340 D340 st340
    have t341 : Exa Z h326 aE nOption_1 := (t327.ext E326)
    have ne342 : aE ≠ b340 := Nat.ne_of_lt (Nat.lt_of_lt_of_le t341.lt (Nat.le_of_eq gb340.symm))
    have t343 : Exa Z h326 x1_b3 nString_0 := (t329.ext E326)
    have ne344 : x1_b3 ≠ b340 := Nat.ne_of_lt (Nat.lt_of_lt_of_le t343.lt (Nat.le_of_eq gb340.symm))
    have t345 : Arv Z h326 x1_x10_b1 x1_x10_k1 .byte (1 : Int32) [(.int (nar .byte (((p4 &&& (255 : Int32)).toUInt32.toUInt16.toUInt32.toInt32).toInt8.toInt32)))] (.int (0 : Int32)) := (t331.ext E326)
    have ne346 : x1_x10_b1 ≠ b340 := Nat.ne_of_lt (Nat.lt_of_lt_of_le t345.lt (Nat.le_of_eq gb340.symm))
    have t347 : Exa Z h326 b302 nKnownO_3 := (q318_0.ext E326)
    have ne348 : b302 ≠ b340 := Nat.ne_of_lt (Nat.lt_of_lt_of_le t347.lt (Nat.le_of_eq gb340.symm))
    have t349 : Exa Z h326 x318_b2 nTreeMa_14 := (q318_6.ext E326)
    have ne350 : x318_b2 ≠ b340 := Nat.ne_of_lt (Nat.lt_of_lt_of_le t349.lt (Nat.le_of_eq gb340.symm))
    have ne351 : b326 ≠ b340 := Nat.ne_of_lt (Nat.lt_of_lt_of_le A326.lt (Nat.le_of_eq gb340.symm))
    have g352 : n0 ≤ b340 := Nat.le_trans (Nat.le_of_eq O336.1.symm) (Nat.le_trans O336.2.1 (Nat.le_of_eq gb340.symm))
    have O353 : Old Z n0 h340 := Old.ext O336 E340
    have hk354 := Nat.le_trans hk337 E340.1
    have f355 : Fld Z h340 b340 nMessag_6 "origin" "Ljava/lang/String;" .null := D340 (Or.inr (wq hw 94 rfl)) (ty := (.object nString_0)) (by decide)
    have f356 : Fld Z h340 b340 nMessag_6 "seq" "J" (.long (0 : Int64)) := D340 (Or.inr (wq hw 96 rfl)) (ty := .long) (by decide)
    have t357 : Exa Z h340 x1_b3 nString_0 := (t343.ext E340)
    have t358 : Fld Z h340 x1_b3 nString_0 "value" "[B" (.ref x1_x10_b1) := ((((q1_2.ext E302).keep K318 (ninS ne305 nin0)).ext E326).ext E340)
    have t359 : Arv Z h340 x1_x10_b1 x1_x10_k1 .byte (1 : Int32) [(.int (nar .byte (((p4 &&& (255 : Int32)).toUInt32.toUInt16.toUInt32.toInt32).toInt8.toInt32)))] (.int (0 : Int32)) := (t345.ext E340)
    obtain ⟨_, _, ⟨T360, L360, k360, n360⟩, -, X360, hSi360, hge360, ⟨Lc360, hQ360, l360, y360, z360⟩, st360⟩ := X340.specialBackS hx (y := my_38) rfl hown0 (mvT hZ0 (wq hw 67 rfl)) (mvT hZ0 (wq hw 68 rfl)) (mvT hZ0 (wq hw 69 rfl)) (by decide) (backOfS (W := 3) (rc38_init l Z a0 hw [] cs aE hS b340 x1_b3 (own_max (1 : Int64) (zA &&& (9223372036854775807 : Int64))) x1_x10_b1 x1_x10_k1 (nar .byte (((p4 &&& (255 : Int32)).toUInt32.toUInt16.toUInt32.toInt32).toInt8.toInt32)) h340 n0 O353 g2 g4 g352 A340 f355 f356 t357 t358 t359 (own_max_ge _)) hZ0 (wq hw 69 rfl) (wq hw 66 rfl) (by decide) (by decide)) (g := (mkF m 84 #[.val (.long zA), .second, .val (.long zB), .second, .val (.int p2), .val (.int p3), .val (.int p4), .val (.ref x1_b3), .val (.long (own_max (1 : Int64) (zA &&& (9223372036854775807 : Int64)))), .second, .val (.long (own_max (1 : Int64) (zA &&& (9223372036854775807 : Int64)))), .second, .val (.int (1 : Int32)), .val (.ref b302), .unset, .unset, .unset, .unset] [(.long (own_max (1 : Int64) (zA &&& (9223372036854775807 : Int64)))), (.ref x1_b3), (.ref b340), (.ref b340), (.ref b326), (.ref b326)])) rfl (by rw [hml]; rfl) (Steps.refl _) (a := b340) (argsL := [(.ref x1_b3), (.long (own_max (1 : Int64) (zA &&& (9223372036854775807 : Int64))))]) (rest := [(.ref b340), (.ref b326), (.ref b326)]) (lenOf pd_23 rfl) rfl (by show 2 * 0 + _ ≤ _; exact Nat.le_of_eq rfl) (hb hby at_84) (fun _ _ => ⟨rfl, e340, (by decide : 6 + 4 ≤ _), (by decide : 25 + 104 ≤ _)⟩)
    dsimp only [Pt.U, Pt.locs, Pt.cells, Pt.slots] at X360 l360 y360 z360 st360 hQ360 hSi360 hge360
    have X360 := own_to X360 l360 y360 z360
    obtain ⟨X360r, hS360, hZ360, hown360⟩ := rebS hS0 hk354 X360 hSi360 (by rw [← e340]; exact hge360) hZ0 hown0
    obtain ⟨rfl, N360q, K360, q360_0, q360_1, q360_2⟩ := hQ360
    have N360 := Fr.app N318 N360q
    have O361 : Old Z n0 T360.heap := Old.keep O353 K360 (allS g352 all0)
    obtain ⟨_, _, ⟨T362, L362, k362, n362⟩, -, X362, ⟨Lc362, hQ362, l362, y362, z362⟩, st362⟩ := Jvm.LawKit.callS X360r hx (y := my_39) hown360 (mvT hZ360 (wq hw 97 rfl)) (mvT hZ360 (wq hw 98 rfl)) (mvT hZ360 (wq hw 99 rfl)) (mvT hZ360 (wq hw 100 rfl)) (by decide) (backOf (W := 3) (rc43_empty l Z a0 hw [] cs aE hS  T360.heap n0 O361 ) hZ360 (wq hw 100 rfl) (wq hw 99 rfl) (by decide) (by decide)) (g := (mkF m 87 #[.val (.long zA), .second, .val (.long zB), .second, .val (.int p2), .val (.int p3), .val (.int p4), .val (.ref x1_b3), .val (.long (own_max (1 : Int64) (zA &&& (9223372036854775807 : Int64)))), .second, .val (.long (own_max (1 : Int64) (zA &&& (9223372036854775807 : Int64)))), .second, .val (.int (1 : Int32)), .val (.ref b302), .unset, .unset, .unset, .unset] [(.ref b340), (.ref b326), (.ref b326)])) rfl (by rw [hml]; rfl) (argsL := []) (rest := [(.ref b340), (.ref b326), (.ref b326)]) (lenOf pd_24 rfl) rfl (by show 2 * 0 + _ ≤ _; exact Nat.le_of_eq rfl) (hb hby at_87) (fun _ _ => ⟨rfl, rfl, (by decide : 10 + 0 ≤ _), (by decide : 129 + 0 ≤ _)⟩)
    dsimp only [Pt.U, Pt.locs, Pt.cells, Pt.slots] at X362 l362 y362 z362 st362 hQ362
    have X362 := own_to X362 l362 y362 z362
    obtain ⟨rfl, N362q, e362⟩ := hQ362
    have N362 := Fr.app N360 N362q
    have t363 : Exa Z T360.heap b326 nPredec_4 := ((A326.ext E340).keep K360)
    have t364 : Fld Z T360.heap b326 nPredec_4 "deadline" nOption_2 .null := ((f339.ext E340).keep K360 (ninS ne351 nin0))
    have t365 : Fld Z T360.heap b326 nPredec_4 "id" nMessag_5 .null := ((f338.ext E340).keep K360 (ninS ne351 nin0))
    have t366 : Exa Z T360.heap aE nOption_1 := ((t341.ext E340).keep K360)
    have t367 : Fld Z T360.heap aE nOption_1 "isPresent" "Z" (.int (0 : Int32)) := (((((((hS.2.2.2.2.ext O0.2).keep K1 nin0).ext E302).keep K318 (ninS ne304 nin0)).ext E326).ext E340).keep K360 (ninS ne342 nin0))
    obtain ⟨_, _, ⟨T368, L368, k368, n368⟩, -, X368, hSi368, hge368, ⟨Lc368, hQ368, l368, y368, z368⟩, st368⟩ := X362.specialBackS hx (y := my_42) rfl hown360 (mvT hZ360 (wq hw 102 rfl)) (mvT hZ360 (wq hw 103 rfl)) (mvT hZ360 (wq hw 104 rfl)) (by decide) (backOfS (W := 1) (rc44_init l Z a0 hw [] cs aE hS b326 b340 aE T360.heap n0 O361 g335 g352 t363 t364 t365 t366 t367) hZ360 (wq hw 104 rfl) (wq hw 63 rfl) (by decide) (by decide)) (g := (mkF m 90 #[.val (.long zA), .second, .val (.long zB), .second, .val (.int p2), .val (.int p3), .val (.int p4), .val (.ref x1_b3), .val (.long (own_max (1 : Int64) (zA &&& (9223372036854775807 : Int64)))), .second, .val (.long (own_max (1 : Int64) (zA &&& (9223372036854775807 : Int64)))), .second, .val (.int (1 : Int32)), .val (.ref b302), .unset, .unset, .unset, .unset] [(.ref aE), (.ref b340), (.ref b326), (.ref b326)])) rfl (by rw [hml]; rfl) (Steps.refl _) (a := b326) (argsL := [(.ref b340), (.ref aE)]) (rest := [(.ref b326)]) (lenOf pd_26 rfl) rfl (by show 2 * 0 + _ ≤ _; exact Nat.le_of_eq rfl) (hb hby at_90) (fun _ _ => ⟨rfl, e362, (by decide : 10 + 4 ≤ _), (by decide : 129 + 48 ≤ _)⟩)
    dsimp only [Pt.U, Pt.locs, Pt.cells, Pt.slots] at X368 l368 y368 z368 st368 hQ368 hSi368 hge368
    have X368 := own_to X368 l368 y368 z368
    obtain ⟨X368r, hS368, hZ368, hown368⟩ := rebS hS360 (Nat.le_refl _) X368 hSi368 (by rw [← e362]; exact hge368) hZ360 hown360
    obtain ⟨rfl, N368q, K368, q368_0, q368_1, q368_2⟩ := hQ368
    have N368 := Fr.app N362 N368q
    have O369 : Old Z n0 T368.heap := Old.keep O361 K368 (allS g335 all0)
    obtain ⟨T370, h370, X370, e370, E370, A370, D370, -, st370⟩ := newO X368r hx hZ368 hown368 (wq hw 61 rfl) (wq hw 62 rfl) (wq hw 63 rfl) rfl (g := (mkF m 95 #[.val (.long zA), .second, .val (.long zB), .second, .val (.int p2), .val (.int p3), .val (.int p4), .val (.ref x1_b3), .val (.long (own_max (1 : Int64) (zA &&& (9223372036854775807 : Int64)))), .second, .val (.long (own_max (1 : Int64) (zA &&& (9223372036854775807 : Int64)))), .second, .val (.int (1 : Int32)), .val (.ref b302), .val (.ref b326), .unset, .unset, .unset] [])) rfl (hb hby at_95) (by decide) (by decide)
    obtain ⟨b370, gb370⟩ : ∃ z, z = T368.heap.size := ⟨_, rfl⟩
    rw [← gb370] at A370 D370 st370
    have t371 : Exa Z T368.heap aE nOption_1 := (t366.keep K368)
    have ne372 : aE ≠ b370 := Nat.ne_of_lt (Nat.lt_of_lt_of_le t371.lt (Nat.le_of_eq gb370.symm))
    have t373 : Exa Z T368.heap x1_b3 nString_0 := ((t357.keep K360).keep K368)
    have ne374 : x1_b3 ≠ b370 := Nat.ne_of_lt (Nat.lt_of_lt_of_le t373.lt (Nat.le_of_eq gb370.symm))
    have t375 : Arv Z T368.heap x1_x10_b1 x1_x10_k1 .byte (1 : Int32) [(.int (nar .byte (((p4 &&& (255 : Int32)).toUInt32.toUInt16.toUInt32.toInt32).toInt8.toInt32)))] (.int (0 : Int32)) := ((t359.keep K360 (ninS ne346 nin0)).keep K368 (ninS ne332 nin0))
    have ne376 : x1_x10_b1 ≠ b370 := Nat.ne_of_lt (Nat.lt_of_lt_of_le t375.lt (Nat.le_of_eq gb370.symm))
    have t377 : Exa Z T368.heap b302 nKnownO_3 := (((t347.ext E340).keep K360).keep K368)
    have ne378 : b302 ≠ b370 := Nat.ne_of_lt (Nat.lt_of_lt_of_le t377.lt (Nat.le_of_eq gb370.symm))
    have t379 : Exa Z T368.heap x318_b2 nTreeMa_14 := (((t349.ext E340).keep K360).keep K368)
    have ne380 : x318_b2 ≠ b370 := Nat.ne_of_lt (Nat.lt_of_lt_of_le t379.lt (Nat.le_of_eq gb370.symm))
    have t381 : Exa Z T368.heap b340 nMessag_6 := (q360_0.keep K368)
    have ne382 : b340 ≠ b370 := Nat.ne_of_lt (Nat.lt_of_lt_of_le t381.lt (Nat.le_of_eq gb370.symm))
    have ne383 : b326 ≠ b370 := Nat.ne_of_lt (Nat.lt_of_lt_of_le q368_0.lt (Nat.le_of_eq gb370.symm))
    have g384 : n0 ≤ b370 := Nat.le_trans (Nat.le_of_eq O369.1.symm) (Nat.le_trans O369.2.1 (Nat.le_of_eq gb370.symm))
    have O385 : Old Z n0 h370 := Old.ext O369 E370
    have hk386 := Nat.le_trans (Nat.le_refl _) E370.1
    have f387 : Fld Z h370 b370 nPredec_4 "id" nMessag_5 .null := D370 (Or.inr (wq hw 120 rfl)) (ty := (.object nMessag_6)) (by decide)
    have f388 : Fld Z h370 b370 nPredec_4 "deadline" nOption_2 .null := D370 (Or.inr (wq hw 122 rfl)) (ty := (.object nOption_1)) (by decide)
    obtain ⟨T389, h389, X389, e389, E389, A389, D389, -, st389⟩ := newO X370 hx hZ368 hown368 (wq hw 64 rfl) (wq hw 65 rfl) (wq hw 66 rfl) e370 (g := (mkF m 99 #[.val (.long zA), .second, .val (.long zB), .second, .val (.int p2), .val (.int p3), .val (.int p4), .val (.ref x1_b3), .val (.long (own_max (1 : Int64) (zA &&& (9223372036854775807 : Int64)))), .second, .val (.long (own_max (1 : Int64) (zA &&& (9223372036854775807 : Int64)))), .second, .val (.int (1 : Int32)), .val (.ref b302), .val (.ref b326), .unset, .unset, .unset] [(.ref b370), (.ref b370)])) rfl (hb hby at_99) (by decide) (by decide)
    obtain ⟨b389, gb389⟩ : ∃ z, z = h370.size := ⟨_, rfl⟩
    rw [← gb389] at A389 D389 st389
    have t390 : Exa Z h370 aE nOption_1 := (t371.ext E370)
    have ne391 : aE ≠ b389 := Nat.ne_of_lt (Nat.lt_of_lt_of_le t390.lt (Nat.le_of_eq gb389.symm))
    have t392 : Exa Z h370 x1_b3 nString_0 := (t373.ext E370)
    have ne393 : x1_b3 ≠ b389 := Nat.ne_of_lt (Nat.lt_of_lt_of_le t392.lt (Nat.le_of_eq gb389.symm))
    have t394 : Arv Z h370 x1_x10_b1 x1_x10_k1 .byte (1 : Int32) [(.int (nar .byte (((p4 &&& (255 : Int32)).toUInt32.toUInt16.toUInt32.toInt32).toInt8.toInt32)))] (.int (0 : Int32)) := (t375.ext E370)
    have ne395 : x1_x10_b1 ≠ b389 := Nat.ne_of_lt (Nat.lt_of_lt_of_le t394.lt (Nat.le_of_eq gb389.symm))
    have t396 : Exa Z h370 b302 nKnownO_3 := (t377.ext E370)
    have ne397 : b302 ≠ b389 := Nat.ne_of_lt (Nat.lt_of_lt_of_le t396.lt (Nat.le_of_eq gb389.symm))
    have t398 : Exa Z h370 x318_b2 nTreeMa_14 := (t379.ext E370)
    have ne399 : x318_b2 ≠ b389 := Nat.ne_of_lt (Nat.lt_of_lt_of_le t398.lt (Nat.le_of_eq gb389.symm))
    have t400 : Exa Z h370 b340 nMessag_6 := (t381.ext E370)
    have ne401 : b340 ≠ b389 := Nat.ne_of_lt (Nat.lt_of_lt_of_le t400.lt (Nat.le_of_eq gb389.symm))
    have t402 : Exa Z h370 b326 nPredec_4 := (q368_0.ext E370)
    have ne403 : b326 ≠ b389 := Nat.ne_of_lt (Nat.lt_of_lt_of_le t402.lt (Nat.le_of_eq gb389.symm))
    have ne404 : b370 ≠ b389 := Nat.ne_of_lt (Nat.lt_of_lt_of_le A370.lt (Nat.le_of_eq gb389.symm))
    have g405 : n0 ≤ b389 := Nat.le_trans (Nat.le_of_eq O385.1.symm) (Nat.le_trans O385.2.1 (Nat.le_of_eq gb389.symm))
    have O406 : Old Z n0 h389 := Old.ext O385 E389
    have hk407 := Nat.le_trans hk386 E389.1
    have f408 : Fld Z h389 b389 nMessag_6 "origin" "Ljava/lang/String;" .null := D389 (Or.inr (wq hw 94 rfl)) (ty := (.object nString_0)) (by decide)
    have f409 : Fld Z h389 b389 nMessag_6 "seq" "J" (.long (0 : Int64)) := D389 (Or.inr (wq hw 96 rfl)) (ty := .long) (by decide)
    have t410 : Exa Z h389 x1_b3 nString_0 := (t392.ext E389)
    have t411 : Fld Z h389 x1_b3 nString_0 "value" "[B" (.ref x1_x10_b1) := ((((t358.keep K360 (ninS ne344 nin0)).keep K368 (ninS ne330 nin0)).ext E370).ext E389)
    have t412 : Arv Z h389 x1_x10_b1 x1_x10_k1 .byte (1 : Int32) [(.int (nar .byte (((p4 &&& (255 : Int32)).toUInt32.toUInt16.toUInt32.toInt32).toInt8.toInt32)))] (.int (0 : Int32)) := (t394.ext E389)
    obtain ⟨_, _, ⟨T413, L413, k413, n413⟩, -, X413, hSi413, hge413, ⟨Lc413, hQ413, l413, y413, z413⟩, st413⟩ := X389.specialBackS hx (y := my_38) rfl hown368 (mvT hZ368 (wq hw 67 rfl)) (mvT hZ368 (wq hw 68 rfl)) (mvT hZ368 (wq hw 69 rfl)) (by decide) (backOfS (W := 3) (rc38_init l Z a0 hw [] cs aE hS b389 x1_b3 (own_max (1 : Int64) (zA &&& (9223372036854775807 : Int64))) x1_x10_b1 x1_x10_k1 (nar .byte (((p4 &&& (255 : Int32)).toUInt32.toUInt16.toUInt32.toInt32).toInt8.toInt32)) h389 n0 O406 g2 g4 g405 A389 f408 f409 t410 t411 t412 (own_max_ge _)) hZ368 (wq hw 69 rfl) (wq hw 66 rfl) (by decide) (by decide)) (g := (mkF m 107 #[.val (.long zA), .second, .val (.long zB), .second, .val (.int p2), .val (.int p3), .val (.int p4), .val (.ref x1_b3), .val (.long (own_max (1 : Int64) (zA &&& (9223372036854775807 : Int64)))), .second, .val (.long (own_max (1 : Int64) (zA &&& (9223372036854775807 : Int64)))), .second, .val (.int (1 : Int32)), .val (.ref b302), .val (.ref b326), .unset, .unset, .unset] [(.long (own_max (1 : Int64) (zA &&& (9223372036854775807 : Int64)))), (.ref x1_b3), (.ref b389), (.ref b389), (.ref b370), (.ref b370)])) rfl (by rw [hml]; rfl) (Steps.refl _) (a := b389) (argsL := [(.ref x1_b3), (.long (own_max (1 : Int64) (zA &&& (9223372036854775807 : Int64))))]) (rest := [(.ref b389), (.ref b370), (.ref b370)]) (lenOf pd_23 rfl) rfl (by show 2 * 0 + _ ≤ _; exact Nat.le_of_eq rfl) (hb hby at_107) (fun _ _ => ⟨rfl, e389, (by decide : 16 + 4 ≤ _), (by decide : 181 + 104 ≤ _)⟩)
    dsimp only [Pt.U, Pt.locs, Pt.cells, Pt.slots] at X413 l413 y413 z413 st413 hQ413 hSi413 hge413
    have X413 := own_to X413 l413 y413 z413
    obtain ⟨X413r, hS413, hZ413, hown413⟩ := rebS hS368 hk407 X413 hSi413 (by rw [← e389]; exact hge413) hZ368 hown368
    obtain ⟨rfl, N413q, K413, q413_0, q413_1, q413_2⟩ := hQ413
    have N413 := Fr.app N368 N413q
    have O414 : Old Z n0 T413.heap := Old.keep O406 K413 (allS g405 all0)
    obtain ⟨_, _, ⟨T415, L415, k415, n415⟩, -, X415, ⟨Lc415, hQ415, l415, y415, z415⟩, st415⟩ := Jvm.LawKit.callS X413r hx (y := my_39) hown413 (mvT hZ413 (wq hw 97 rfl)) (mvT hZ413 (wq hw 98 rfl)) (mvT hZ413 (wq hw 99 rfl)) (mvT hZ413 (wq hw 100 rfl)) (by decide) (backOf (W := 3) (rc43_empty l Z a0 hw [] cs aE hS  T413.heap n0 O414 ) hZ413 (wq hw 100 rfl) (wq hw 99 rfl) (by decide) (by decide)) (g := (mkF m 110 #[.val (.long zA), .second, .val (.long zB), .second, .val (.int p2), .val (.int p3), .val (.int p4), .val (.ref x1_b3), .val (.long (own_max (1 : Int64) (zA &&& (9223372036854775807 : Int64)))), .second, .val (.long (own_max (1 : Int64) (zA &&& (9223372036854775807 : Int64)))), .second, .val (.int (1 : Int32)), .val (.ref b302), .val (.ref b326), .unset, .unset, .unset] [(.ref b389), (.ref b370), (.ref b370)])) rfl (by rw [hml]; rfl) (argsL := []) (rest := [(.ref b389), (.ref b370), (.ref b370)]) (lenOf pd_24 rfl) rfl (by show 2 * 0 + _ ≤ _; exact Nat.le_of_eq rfl) (hb hby at_110) (fun _ _ => ⟨rfl, rfl, (by decide : 20 + 0 ≤ _), (by decide : 285 + 0 ≤ _)⟩)
    dsimp only [Pt.U, Pt.locs, Pt.cells, Pt.slots] at X415 l415 y415 z415 st415 hQ415
    have X415 := own_to X415 l415 y415 z415
    obtain ⟨rfl, N415q, e415⟩ := hQ415
    have N415 := Fr.app N413 N415q
    have t416 : Exa Z T413.heap b370 nPredec_4 := ((A370.ext E389).keep K413)
    have t417 : Fld Z T413.heap b370 nPredec_4 "deadline" nOption_2 .null := ((f388.ext E389).keep K413 (ninS ne404 nin0))
    have t418 : Fld Z T413.heap b370 nPredec_4 "id" nMessag_5 .null := ((f387.ext E389).keep K413 (ninS ne404 nin0))
    have t419 : Exa Z T413.heap aE nOption_1 := ((t390.ext E389).keep K413)
    have t420 : Fld Z T413.heap aE nOption_1 "isPresent" "Z" (.int (0 : Int32)) := ((((t367.keep K368 (ninS ne328 nin0)).ext E370).ext E389).keep K413 (ninS ne391 nin0))
    obtain ⟨_, _, ⟨T421, L421, k421, n421⟩, -, X421, hSi421, hge421, ⟨Lc421, hQ421, l421, y421, z421⟩, st421⟩ := X415.specialBackS hx (y := my_42) rfl hown413 (mvT hZ413 (wq hw 102 rfl)) (mvT hZ413 (wq hw 103 rfl)) (mvT hZ413 (wq hw 104 rfl)) (by decide) (backOfS (W := 1) (rc44_init l Z a0 hw [] cs aE hS b370 b389 aE T413.heap n0 O414 g384 g405 t416 t417 t418 t419 t420) hZ413 (wq hw 104 rfl) (wq hw 63 rfl) (by decide) (by decide)) (g := (mkF m 113 #[.val (.long zA), .second, .val (.long zB), .second, .val (.int p2), .val (.int p3), .val (.int p4), .val (.ref x1_b3), .val (.long (own_max (1 : Int64) (zA &&& (9223372036854775807 : Int64)))), .second, .val (.long (own_max (1 : Int64) (zA &&& (9223372036854775807 : Int64)))), .second, .val (.int (1 : Int32)), .val (.ref b302), .val (.ref b326), .unset, .unset, .unset] [(.ref aE), (.ref b389), (.ref b370), (.ref b370)])) rfl (by rw [hml]; rfl) (Steps.refl _) (a := b370) (argsL := [(.ref b389), (.ref aE)]) (rest := [(.ref b370)]) (lenOf pd_26 rfl) rfl (by show 2 * 0 + _ ≤ _; exact Nat.le_of_eq rfl) (hb hby at_113) (fun _ _ => ⟨rfl, e415, (by decide : 20 + 4 ≤ _), (by decide : 285 + 48 ≤ _)⟩)
    dsimp only [Pt.U, Pt.locs, Pt.cells, Pt.slots] at X421 l421 y421 z421 st421 hQ421 hSi421 hge421
    have X421 := own_to X421 l421 y421 z421
    obtain ⟨X421r, hS421, hZ421, hown421⟩ := rebS hS413 (Nat.le_refl _) X421 hSi421 (by rw [← e415]; exact hge421) hZ413 hown413
    obtain ⟨rfl, N421q, K421, q421_0, q421_1, q421_2⟩ := hQ421
    have N421 := Fr.app N415 N421q
    have O422 : Old Z n0 T421.heap := Old.keep O414 K421 (allS g384 all0)
    have t423 : Exa Z T421.heap b302 nKnownO_3 := (((t396.ext E389).keep K413).keep K421)
    have t424 : Fld Z T421.heap b302 nKnownO_3 "named" nPredec_7 .null := ((((((((q318_3.ext E326).ext E340).keep K360 (ninS ne348 nin0)).keep K368 (ninS ne333 nin0)).ext E370).ext E389).keep K413 (ninS ne397 nin0)).keep K421 (ninS ne378 nin0))
    obtain ⟨cq425, kq425, q425a, q425b, q425c⟩ := isOf hZ421 rfl (t423)
    obtain ⟨_, _, ⟨T425, L425, k425, n425⟩, -, X425, ⟨Lc425, hQ425, l425, y425, z425⟩, st425⟩ := X421r.virtualBack hx (y := my_26) (z := my_26) hown421 (mvT hZ421 (wq hw 123 rfl)) (mvT hZ421 (wq hw 124 rfl)) (notFace_of_selects (args := #[]) (mvT hZ421 (wq hw 126 rfl))) (mvT hZ421 (wq hw 126 rfl)) (mvT hZ421 (wq hw 125 rfl)) (by decide) (backOf (W := 0) (rc48_isNamed l Z a0 hw [] cs aE hS b302 T421.heap n0 O422 g307 t424) hZ421 (wq hw 127 rfl) (wq hw 33 rfl) (by decide) (by decide)) q425a q425c (g := (mkF m 120 #[.val (.long zA), .second, .val (.long zB), .second, .val (.int p2), .val (.int p3), .val (.int p4), .val (.ref x1_b3), .val (.long (own_max (1 : Int64) (zA &&& (9223372036854775807 : Int64)))), .second, .val (.long (own_max (1 : Int64) (zA &&& (9223372036854775807 : Int64)))), .second, .val (.int (1 : Int32)), .val (.ref b302), .val (.ref b326), .val (.ref b370), .unset, .unset] [(.ref b302)])) rfl (by rw [hml]; rfl) (Steps.refl _) (argsL := []) (rest := []) (lenOf pd_14 rfl) rfl (by show 2 * 0 + _ ≤ _; exact Nat.le_of_eq rfl) (hb hby at_120) (fun _ _ => ⟨rfl, rfl, (by decide : 24 + 0 ≤ _), (by decide : 333 + 0 ≤ _)⟩)
    dsimp only [Pt.U, Pt.locs, Pt.cells, Pt.slots] at X425 l425 y425 z425 st425 hQ425
    have X425 := own_to X425 l425 y425 z425
    obtain ⟨rfl, N425q, e425⟩ := hQ425
    have N425 := Fr.app N421 N425q
    have t426 : Exa Z T421.heap b326 nPredec_4 := (((t402.ext E389).keep K413).keep K421)
    have t427 : Fld Z T421.heap b326 nPredec_4 "id" nMessag_5 (.ref b340) := ((((q368_2.ext E370).ext E389).keep K413 (ninS ne403 nin0)).keep K421 (ninS ne383 nin0))
    have t428 : Exa Z T421.heap b340 nMessag_6 := (((t400.ext E389).keep K413).keep K421)
    have t429 : Fld Z T421.heap b340 nMessag_6 "seq" "J" (.long (own_max (1 : Int64) (zA &&& (9223372036854775807 : Int64)))) := (((((q360_2.keep K368 (ninS (Ne.symm ne351) nin0)).ext E370).ext E389).keep K413 (ninS ne401 nin0)).keep K421 (ninS ne382 nin0))
    have t430 : Exa Z T421.heap b389 nMessag_6 := (q413_0.keep K421)
    have t431 : Fld Z T421.heap b389 nMessag_6 "seq" "J" (.long (own_max (1 : Int64) (zA &&& (9223372036854775807 : Int64)))) := (q413_2.keep K421 (ninS (Ne.symm ne404) nin0))
    have t432 : Fld Z T421.heap b302 nKnownO_3 "namedSeq" "J" (.long (0 : Int64)) := ((((((((q318_4.ext E326).ext E340).keep K360 (ninS ne348 nin0)).keep K368 (ninS ne333 nin0)).ext E370).ext E389).keep K413 (ninS ne397 nin0)).keep K421 (ninS ne378 nin0))
    have t433 : Fld Z T421.heap b302 nKnownO_3 "alsoNamed" nList_8 .null := ((((((((q318_1.ext E326).ext E340).keep K360 (ninS ne348 nin0)).keep K368 (ninS ne333 nin0)).ext E370).ext E389).keep K413 (ninS ne397 nin0)).keep K421 (ninS ne378 nin0))
    have inv434 : InvE Z n0 T421.heap b302 b326 b340 (own_max (1 : Int64) (zA &&& (9223372036854775807 : Int64))) b370 b389 (own_max (1 : Int64) (zA &&& (9223372036854775807 : Int64))) (0 : Int32) := ⟨⟨t423, g307, t426, t427, t428, t429, q421_0, q421_2, t430, t431⟩, Or.inl ⟨rfl, ⟨_, t424, t432, t433⟩⟩⟩
    obtain ⟨_, _, ⟨T435, L435, k435, n435⟩, -, X435, ⟨Lc435, hQ435, l435, y435, z435⟩, st435⟩ := Jvm.LawKit.callS X425 hx (y := my_4) hown421 (mvT hZ421 (wq hw 130 rfl)) (mvT hZ421 (wq hw 131 rfl)) (mvT hZ421 (wq hw 132 rfl)) (mvT hZ421 (wq hw 133 rfl)) (by decide) (backOf (W := 0) (rm_stepE l Z a0 hw [] cs aE hS b302 b326 b340 (own_max (1 : Int64) (zA &&& (9223372036854775807 : Int64))) b370 b389 (own_max (1 : Int64) (zA &&& (9223372036854775807 : Int64))) (p3 &&& (3 : Int32)) (0 : Int32) T421.heap n0 O422 rfl (own_c3 _) inv434) hZ421 (wq hw 133 rfl) (wq hw 132 rfl) (by decide) (by decide)) (g := (mkF m 154 #[.val (.long zA), .second, .val (.long zB), .second, .val (.int p2), .val (.int p3), .val (.int p4), .val (.ref x1_b3), .val (.long (own_max (1 : Int64) (zA &&& (9223372036854775807 : Int64)))), .second, .val (.long (own_max (1 : Int64) (zA &&& (9223372036854775807 : Int64)))), .second, .val (.int (1 : Int32)), .val (.ref b302), .val (.ref b326), .val (.ref b370), .val (.int (1 : Int32)), .val (.int (0 : Int32))] [(.int (0 : Int32)), (.int (1 : Int32)), (.long (own_max (1 : Int64) (zA &&& (9223372036854775807 : Int64)))), (.long (own_max (1 : Int64) (zA &&& (9223372036854775807 : Int64)))), (.ref b370), (.ref b326), (.int (p3 &&& (3 : Int32))), (.ref b302)])) rfl (by rw [hml]; rfl) (argsL := [(.ref b302), (.int (p3 &&& (3 : Int32))), (.ref b326), (.ref b370), (.long (own_max (1 : Int64) (zA &&& (9223372036854775807 : Int64)))), (.long (own_max (1 : Int64) (zA &&& (9223372036854775807 : Int64)))), (.int (1 : Int32)), (.int (0 : Int32))]) (rest := []) (lenOf pd_27 rfl) rfl (by show 2 * 0 + _ ≤ _; exact Nat.le_of_eq rfl) (hb hby at_154) (fun _ _ => ⟨rfl, e425, (by decide : 24 + 2 ≤ _), (by decide : 333 + 4 ≤ _)⟩)
    dsimp only [Pt.U, Pt.locs, Pt.cells, Pt.slots] at X435 l435 y435 z435 st435 hQ435
    have X435 := own_to X435 l435 y435 z435
    obtain ⟨st435', rfl, N435q, siz435, OI435, inv435⟩ := hQ435
    have N435 := Fr.app N425 N435q
    have hk436 := Nat.le_trans (Nat.le_refl _) siz435
    obtain ⟨cq437, kq437, q437a, q437b, q437c⟩ := isOf hZ421 rfl (inv435.1.1)
    obtain ⟨_, _, ⟨T437, L437, k437, n437⟩, -, X437, ⟨Lc437, hQ437, l437, y437, z437⟩, st437⟩ := X435.virtualBack hx (y := my_26) (z := my_26) hown421 (mvT hZ421 (wq hw 123 rfl)) (mvT hZ421 (wq hw 124 rfl)) (notFace_of_selects (args := #[]) (mvT hZ421 (wq hw 126 rfl))) (mvT hZ421 (wq hw 126 rfl)) (mvT hZ421 (wq hw 125 rfl)) (by decide) (backOf (W := 1) (rm_isnE l Z a0 hw [] b302 b326 b340 (own_max (1 : Int64) (zA &&& (9223372036854775807 : Int64))) b370 b389 (own_max (1 : Int64) (zA &&& (9223372036854775807 : Int64))) (st435') T435.heap n0 inv435) hZ421 (wq hw 127 rfl) (wq hw 33 rfl) (by decide) (by decide)) q437a q437c (g := (mkF m 163 #[.val (.long zA), .second, .val (.long zB), .second, .val (.int p2), .val (.int p3), .val (.int p4), .val (.ref x1_b3), .val (.long (own_max (1 : Int64) (zA &&& (9223372036854775807 : Int64)))), .second, .val (.long (own_max (1 : Int64) (zA &&& (9223372036854775807 : Int64)))), .second, .val (.int (1 : Int32)), .val (.ref b302), .val (.ref b326), .val (.ref b370), .val (.int (1 : Int32)), .val (.int st435')] [(.ref b302), (.int (1 : Int32))])) rfl (by rw [hml]; rfl) (Steps.refl _) (argsL := []) (rest := [(.int (1 : Int32))]) (lenOf pd_14 rfl) rfl (by show 2 * 0 + _ ≤ _; exact Nat.le_of_eq rfl) (hb hby at_163) (fun _ _ => ⟨rfl, rfl, (by decide : 26 + 0 ≤ _), (by decide : 337 + 0 ≤ _)⟩)
    dsimp only [Pt.U, Pt.locs, Pt.cells, Pt.slots] at X437 l437 y437 z437 st437 hQ437
    have X437 := own_to X437 l437 y437 z437
    obtain ⟨rfl, N437q, e437⟩ := hQ437
    have N437 := Fr.app N435 N437q
    have mg438 : ∀ t, Steps p.tables e below (T437.setTop (mkF m 185 #[.val (.long zA), .second, .val (.long zB), .second, .val (.int p2), .val (.int p3), .val (.int p4), .val (.ref x1_b3), .val (.long (own_max (1 : Int64) (zA &&& (9223372036854775807 : Int64)))), .second, .val (.long (own_max (1 : Int64) (zA &&& (9223372036854775807 : Int64)))), .second, .val (.int (1 : Int32)), .val (.ref b302), .val (.ref b326), .val (.ref b370), .val (.int (1 : Int32)), .val (.int st435')] [(.int (1 : Int32))])) t → Steps p.tables e below (T437.setTop (mkF m 168 #[.val (.long zA), .second, .val (.long zB), .second, .val (.int p2), .val (.int p3), .val (.int p4), .val (.ref x1_b3), .val (.long (own_max (1 : Int64) (zA &&& (9223372036854775807 : Int64)))), .second, .val (.long (own_max (1 : Int64) (zA &&& (9223372036854775807 : Int64)))), .second, .val (.int (1 : Int32)), .val (.ref b302), .val (.ref b326), .val (.ref b370), .val (.int (1 : Int32)), .val (.int st435')] [(.int st435'), (.int (own_b (st435'))), (.int (1 : Int32))])) t := fun t kt => by
      by_cases hc168 : st435' = (0 : Int32)
      · refine XS.ifYes X437.here hx rfl (pc0 := 168) (pc' := 175) rfl (hb hby at_168) rfl ((if0 _ _).trans (teq hc168).1) (by decide) (by decide) ?_
        refine XS.iconst X437.here hx rfl (hb hby at_175) ?_
        refine XS.icmpNo X437.here hx rfl (hb hby at_176) rfl (teq (own_b0 hc168)).2 ?_
        refine XS.iconst X437.here hx rfl (hb hby at_179) ?_
        refine XS.goto X437.here hx rfl (pc0 := 180) (pc' := 184) rfl (hb hby at_180) (by decide) (by decide) ?_
        refine XS.iand X437.here hx rfl (hb hby at_184) rfl ?_
        show Steps p.tables e below (T437.setTop (mkF m 185 #[.val (.long zA), .second, .val (.long zB), .second, .val (.int p2), .val (.int p3), .val (.int p4), .val (.ref x1_b3), .val (.long (own_max (1 : Int64) (zA &&& (9223372036854775807 : Int64)))), .second, .val (.long (own_max (1 : Int64) (zA &&& (9223372036854775807 : Int64)))), .second, .val (.int (1 : Int32)), .val (.ref b302), .val (.ref b326), .val (.ref b370), .val (.int (1 : Int32)), .val (.int st435')] [(.int (1 : Int32))])) _
        exact kt
      · refine XS.ifNo X437.here hx rfl (hb hby at_168) rfl ((if0 _ _).trans (feq hc168).1) ?_
        refine XS.iconst X437.here hx rfl (hb hby at_171) ?_
        refine XS.goto X437.here hx rfl (pc0 := 172) (pc' := 176) rfl (hb hby at_172) (by decide) (by decide) ?_
        refine XS.icmpNo X437.here hx rfl (hb hby at_176) rfl (teq (own_b1 hc168)).2 ?_
        refine XS.iconst X437.here hx rfl (hb hby at_179) ?_
        refine XS.goto X437.here hx rfl (pc0 := 180) (pc' := 184) rfl (hb hby at_180) (by decide) (by decide) ?_
        refine XS.iand X437.here hx rfl (hb hby at_184) rfl ?_
        show Steps p.tables e below (T437.setTop (mkF m 185 #[.val (.long zA), .second, .val (.long zB), .second, .val (.int p2), .val (.int p3), .val (.int p4), .val (.ref x1_b3), .val (.long (own_max (1 : Int64) (zA &&& (9223372036854775807 : Int64)))), .second, .val (.long (own_max (1 : Int64) (zA &&& (9223372036854775807 : Int64)))), .second, .val (.int (1 : Int32)), .val (.ref b302), .val (.ref b326), .val (.ref b370), .val (.int (1 : Int32)), .val (.int st435')] [(.int (1 : Int32))])) _
        exact kt
    obtain ⟨_, _, ⟨T439, L439, k439, n439⟩, -, X439, ⟨Lc439, hQ439, l439, y439, z439⟩, st439⟩ := Jvm.LawKit.callS X437 hx (y := my_4) hown421 (mvT hZ421 (wq hw 130 rfl)) (mvT hZ421 (wq hw 131 rfl)) (mvT hZ421 (wq hw 132 rfl)) (mvT hZ421 (wq hw 133 rfl)) (by decide) (backOf (W := 0) (rm_stepE l Z a0 hw [] cs aE hS b302 b326 b340 (own_max (1 : Int64) (zA &&& (9223372036854775807 : Int64))) b370 b389 (own_max (1 : Int64) (zA &&& (9223372036854775807 : Int64))) ((p3 >>> ((2 : Int32) &&& 31)) &&& (3 : Int32)) (st435') T435.heap n0 OI435 rfl (own_c3 _) inv435) hZ421 (wq hw 133 rfl) (wq hw 132 rfl) (by decide) (by decide)) (g := (mkF m 207 #[.val (.long zA), .second, .val (.long zB), .second, .val (.int p2), .val (.int p3), .val (.int p4), .val (.ref x1_b3), .val (.long (own_max (1 : Int64) (zA &&& (9223372036854775807 : Int64)))), .second, .val (.long (own_max (1 : Int64) (zA &&& (9223372036854775807 : Int64)))), .second, .val (.int (1 : Int32)), .val (.ref b302), .val (.ref b326), .val (.ref b370), .val (.int (1 : Int32)), .val (.int st435')] [(.int st435'), (.int (1 : Int32)), (.long (own_max (1 : Int64) (zA &&& (9223372036854775807 : Int64)))), (.long (own_max (1 : Int64) (zA &&& (9223372036854775807 : Int64)))), (.ref b370), (.ref b326), (.int ((p3 >>> ((2 : Int32) &&& 31)) &&& (3 : Int32))), (.ref b302)])) rfl (by rw [hml]; rfl) (argsL := [(.ref b302), (.int ((p3 >>> ((2 : Int32) &&& 31)) &&& (3 : Int32))), (.ref b326), (.ref b370), (.long (own_max (1 : Int64) (zA &&& (9223372036854775807 : Int64)))), (.long (own_max (1 : Int64) (zA &&& (9223372036854775807 : Int64)))), (.int (1 : Int32)), (.int st435')]) (rest := []) (lenOf pd_27 rfl) rfl (by show 2 * 0 + _ ≤ _; exact Nat.le_of_eq rfl) (hb hby at_207) (fun _ _ => ⟨rfl, e437, (by decide : 26 + 2 ≤ _), (by decide : 337 + 4 ≤ _)⟩)
    dsimp only [Pt.U, Pt.locs, Pt.cells, Pt.slots] at X439 l439 y439 z439 st439 hQ439
    have X439 := own_to X439 l439 y439 z439
    obtain ⟨st439', rfl, N439q, siz439, OI439, inv439⟩ := hQ439
    have N439 := Fr.app N437 N439q
    have hk440 := Nat.le_trans hk436 siz439
    obtain ⟨cq441, kq441, q441a, q441b, q441c⟩ := isOf hZ421 rfl (inv439.1.1)
    obtain ⟨_, _, ⟨T441, L441, k441, n441⟩, -, X441, ⟨Lc441, hQ441, l441, y441, z441⟩, st441⟩ := X439.virtualBack hx (y := my_26) (z := my_26) hown421 (mvT hZ421 (wq hw 123 rfl)) (mvT hZ421 (wq hw 124 rfl)) (notFace_of_selects (args := #[]) (mvT hZ421 (wq hw 126 rfl))) (mvT hZ421 (wq hw 126 rfl)) (mvT hZ421 (wq hw 125 rfl)) (by decide) (backOf (W := 1) (rm_isnE l Z a0 hw [] b302 b326 b340 (own_max (1 : Int64) (zA &&& (9223372036854775807 : Int64))) b370 b389 (own_max (1 : Int64) (zA &&& (9223372036854775807 : Int64))) (st439') T439.heap n0 inv439) hZ421 (wq hw 127 rfl) (wq hw 33 rfl) (by decide) (by decide)) q441a q441c (g := (mkF m 216 #[.val (.long zA), .second, .val (.long zB), .second, .val (.int p2), .val (.int p3), .val (.int p4), .val (.ref x1_b3), .val (.long (own_max (1 : Int64) (zA &&& (9223372036854775807 : Int64)))), .second, .val (.long (own_max (1 : Int64) (zA &&& (9223372036854775807 : Int64)))), .second, .val (.int (1 : Int32)), .val (.ref b302), .val (.ref b326), .val (.ref b370), .val (.int (1 : Int32)), .val (.int st439')] [(.ref b302), (.int (1 : Int32))])) rfl (by rw [hml]; rfl) (Steps.refl _) (argsL := []) (rest := [(.int (1 : Int32))]) (lenOf pd_14 rfl) rfl (by show 2 * 0 + _ ≤ _; exact Nat.le_of_eq rfl) (hb hby at_216) (fun _ _ => ⟨rfl, rfl, (by decide : 28 + 0 ≤ _), (by decide : 341 + 0 ≤ _)⟩)
    dsimp only [Pt.U, Pt.locs, Pt.cells, Pt.slots] at X441 l441 y441 z441 st441 hQ441
    have X441 := own_to X441 l441 y441 z441
    obtain ⟨rfl, N441q, e441⟩ := hQ441
    have N441 := Fr.app N439 N441q
    have mg442 : ∀ t, Steps p.tables e below (T441.setTop (mkF m 238 #[.val (.long zA), .second, .val (.long zB), .second, .val (.int p2), .val (.int p3), .val (.int p4), .val (.ref x1_b3), .val (.long (own_max (1 : Int64) (zA &&& (9223372036854775807 : Int64)))), .second, .val (.long (own_max (1 : Int64) (zA &&& (9223372036854775807 : Int64)))), .second, .val (.int (1 : Int32)), .val (.ref b302), .val (.ref b326), .val (.ref b370), .val (.int (1 : Int32)), .val (.int st439')] [(.int (1 : Int32))])) t → Steps p.tables e below (T441.setTop (mkF m 221 #[.val (.long zA), .second, .val (.long zB), .second, .val (.int p2), .val (.int p3), .val (.int p4), .val (.ref x1_b3), .val (.long (own_max (1 : Int64) (zA &&& (9223372036854775807 : Int64)))), .second, .val (.long (own_max (1 : Int64) (zA &&& (9223372036854775807 : Int64)))), .second, .val (.int (1 : Int32)), .val (.ref b302), .val (.ref b326), .val (.ref b370), .val (.int (1 : Int32)), .val (.int st439')] [(.int st439'), (.int (own_b (st439'))), (.int (1 : Int32))])) t := fun t kt => by
      by_cases hc221 : st439' = (0 : Int32)
      · refine XS.ifYes X441.here hx rfl (pc0 := 221) (pc' := 228) rfl (hb hby at_221) rfl ((if0 _ _).trans (teq hc221).1) (by decide) (by decide) ?_
        refine XS.iconst X441.here hx rfl (hb hby at_228) ?_
        refine XS.icmpNo X441.here hx rfl (hb hby at_229) rfl (teq (own_b0 hc221)).2 ?_
        refine XS.iconst X441.here hx rfl (hb hby at_232) ?_
        refine XS.goto X441.here hx rfl (pc0 := 233) (pc' := 237) rfl (hb hby at_233) (by decide) (by decide) ?_
        refine XS.iand X441.here hx rfl (hb hby at_237) rfl ?_
        show Steps p.tables e below (T441.setTop (mkF m 238 #[.val (.long zA), .second, .val (.long zB), .second, .val (.int p2), .val (.int p3), .val (.int p4), .val (.ref x1_b3), .val (.long (own_max (1 : Int64) (zA &&& (9223372036854775807 : Int64)))), .second, .val (.long (own_max (1 : Int64) (zA &&& (9223372036854775807 : Int64)))), .second, .val (.int (1 : Int32)), .val (.ref b302), .val (.ref b326), .val (.ref b370), .val (.int (1 : Int32)), .val (.int st439')] [(.int (1 : Int32))])) _
        exact kt
      · refine XS.ifNo X441.here hx rfl (hb hby at_221) rfl ((if0 _ _).trans (feq hc221).1) ?_
        refine XS.iconst X441.here hx rfl (hb hby at_224) ?_
        refine XS.goto X441.here hx rfl (pc0 := 225) (pc' := 229) rfl (hb hby at_225) (by decide) (by decide) ?_
        refine XS.icmpNo X441.here hx rfl (hb hby at_229) rfl (teq (own_b1 hc221)).2 ?_
        refine XS.iconst X441.here hx rfl (hb hby at_232) ?_
        refine XS.goto X441.here hx rfl (pc0 := 233) (pc' := 237) rfl (hb hby at_233) (by decide) (by decide) ?_
        refine XS.iand X441.here hx rfl (hb hby at_237) rfl ?_
        show Steps p.tables e below (T441.setTop (mkF m 238 #[.val (.long zA), .second, .val (.long zB), .second, .val (.int p2), .val (.int p3), .val (.int p4), .val (.ref x1_b3), .val (.long (own_max (1 : Int64) (zA &&& (9223372036854775807 : Int64)))), .second, .val (.long (own_max (1 : Int64) (zA &&& (9223372036854775807 : Int64)))), .second, .val (.int (1 : Int32)), .val (.ref b302), .val (.ref b326), .val (.ref b370), .val (.int (1 : Int32)), .val (.int st439')] [(.int (1 : Int32))])) _
        exact kt
    obtain ⟨_, _, ⟨T443, L443, k443, n443⟩, -, X443, ⟨Lc443, hQ443, l443, y443, z443⟩, st443⟩ := Jvm.LawKit.callS X441 hx (y := my_4) hown421 (mvT hZ421 (wq hw 130 rfl)) (mvT hZ421 (wq hw 131 rfl)) (mvT hZ421 (wq hw 132 rfl)) (mvT hZ421 (wq hw 133 rfl)) (by decide) (backOf (W := 0) (rm_stepE l Z a0 hw [] cs aE hS b302 b326 b340 (own_max (1 : Int64) (zA &&& (9223372036854775807 : Int64))) b370 b389 (own_max (1 : Int64) (zA &&& (9223372036854775807 : Int64))) ((p3 >>> ((4 : Int32) &&& 31)) &&& (3 : Int32)) (st439') T439.heap n0 OI439 rfl (own_c3 _) inv439) hZ421 (wq hw 133 rfl) (wq hw 132 rfl) (by decide) (by decide)) (g := (mkF m 260 #[.val (.long zA), .second, .val (.long zB), .second, .val (.int p2), .val (.int p3), .val (.int p4), .val (.ref x1_b3), .val (.long (own_max (1 : Int64) (zA &&& (9223372036854775807 : Int64)))), .second, .val (.long (own_max (1 : Int64) (zA &&& (9223372036854775807 : Int64)))), .second, .val (.int (1 : Int32)), .val (.ref b302), .val (.ref b326), .val (.ref b370), .val (.int (1 : Int32)), .val (.int st439')] [(.int st439'), (.int (1 : Int32)), (.long (own_max (1 : Int64) (zA &&& (9223372036854775807 : Int64)))), (.long (own_max (1 : Int64) (zA &&& (9223372036854775807 : Int64)))), (.ref b370), (.ref b326), (.int ((p3 >>> ((4 : Int32) &&& 31)) &&& (3 : Int32))), (.ref b302)])) rfl (by rw [hml]; rfl) (argsL := [(.ref b302), (.int ((p3 >>> ((4 : Int32) &&& 31)) &&& (3 : Int32))), (.ref b326), (.ref b370), (.long (own_max (1 : Int64) (zA &&& (9223372036854775807 : Int64)))), (.long (own_max (1 : Int64) (zA &&& (9223372036854775807 : Int64)))), (.int (1 : Int32)), (.int st439')]) (rest := []) (lenOf pd_27 rfl) rfl (by show 2 * 0 + _ ≤ _; exact Nat.le_of_eq rfl) (hb hby at_260) (fun _ _ => ⟨rfl, e441, (by decide : 28 + 2 ≤ _), (by decide : 341 + 4 ≤ _)⟩)
    dsimp only [Pt.U, Pt.locs, Pt.cells, Pt.slots] at X443 l443 y443 z443 st443 hQ443
    have X443 := own_to X443 l443 y443 z443
    obtain ⟨st443', rfl, N443q, siz443, OI443, inv443⟩ := hQ443
    have N443 := Fr.app N441 N443q
    have hk444 := Nat.le_trans hk440 siz443
    obtain ⟨cq445, kq445, q445a, q445b, q445c⟩ := isOf hZ421 rfl (inv443.1.1)
    obtain ⟨_, _, ⟨T445, L445, k445, n445⟩, -, X445, ⟨Lc445, hQ445, l445, y445, z445⟩, st445⟩ := X443.virtualBack hx (y := my_26) (z := my_26) hown421 (mvT hZ421 (wq hw 123 rfl)) (mvT hZ421 (wq hw 124 rfl)) (notFace_of_selects (args := #[]) (mvT hZ421 (wq hw 126 rfl))) (mvT hZ421 (wq hw 126 rfl)) (mvT hZ421 (wq hw 125 rfl)) (by decide) (backOf (W := 1) (rm_isnE l Z a0 hw [] b302 b326 b340 (own_max (1 : Int64) (zA &&& (9223372036854775807 : Int64))) b370 b389 (own_max (1 : Int64) (zA &&& (9223372036854775807 : Int64))) (st443') T443.heap n0 inv443) hZ421 (wq hw 127 rfl) (wq hw 33 rfl) (by decide) (by decide)) q445a q445c (g := (mkF m 269 #[.val (.long zA), .second, .val (.long zB), .second, .val (.int p2), .val (.int p3), .val (.int p4), .val (.ref x1_b3), .val (.long (own_max (1 : Int64) (zA &&& (9223372036854775807 : Int64)))), .second, .val (.long (own_max (1 : Int64) (zA &&& (9223372036854775807 : Int64)))), .second, .val (.int (1 : Int32)), .val (.ref b302), .val (.ref b326), .val (.ref b370), .val (.int (1 : Int32)), .val (.int st443')] [(.ref b302), (.int (1 : Int32))])) rfl (by rw [hml]; rfl) (Steps.refl _) (argsL := []) (rest := [(.int (1 : Int32))]) (lenOf pd_14 rfl) rfl (by show 2 * 0 + _ ≤ _; exact Nat.le_of_eq rfl) (hb hby at_269) (fun _ _ => ⟨rfl, rfl, (by decide : 30 + 0 ≤ _), (by decide : 345 + 0 ≤ _)⟩)
    dsimp only [Pt.U, Pt.locs, Pt.cells, Pt.slots] at X445 l445 y445 z445 st445 hQ445
    have X445 := own_to X445 l445 y445 z445
    obtain ⟨rfl, N445q, e445⟩ := hQ445
    have N445 := Fr.app N443 N445q
    have mg446 : ∀ t, Steps p.tables e below (T445.setTop (mkF m 291 #[.val (.long zA), .second, .val (.long zB), .second, .val (.int p2), .val (.int p3), .val (.int p4), .val (.ref x1_b3), .val (.long (own_max (1 : Int64) (zA &&& (9223372036854775807 : Int64)))), .second, .val (.long (own_max (1 : Int64) (zA &&& (9223372036854775807 : Int64)))), .second, .val (.int (1 : Int32)), .val (.ref b302), .val (.ref b326), .val (.ref b370), .val (.int (1 : Int32)), .val (.int st443')] [(.int (1 : Int32))])) t → Steps p.tables e below (T445.setTop (mkF m 274 #[.val (.long zA), .second, .val (.long zB), .second, .val (.int p2), .val (.int p3), .val (.int p4), .val (.ref x1_b3), .val (.long (own_max (1 : Int64) (zA &&& (9223372036854775807 : Int64)))), .second, .val (.long (own_max (1 : Int64) (zA &&& (9223372036854775807 : Int64)))), .second, .val (.int (1 : Int32)), .val (.ref b302), .val (.ref b326), .val (.ref b370), .val (.int (1 : Int32)), .val (.int st443')] [(.int st443'), (.int (own_b (st443'))), (.int (1 : Int32))])) t := fun t kt => by
      by_cases hc274 : st443' = (0 : Int32)
      · refine XS.ifYes X445.here hx rfl (pc0 := 274) (pc' := 281) rfl (hb hby at_274) rfl ((if0 _ _).trans (teq hc274).1) (by decide) (by decide) ?_
        refine XS.iconst X445.here hx rfl (hb hby at_281) ?_
        refine XS.icmpNo X445.here hx rfl (hb hby at_282) rfl (teq (own_b0 hc274)).2 ?_
        refine XS.iconst X445.here hx rfl (hb hby at_285) ?_
        refine XS.goto X445.here hx rfl (pc0 := 286) (pc' := 290) rfl (hb hby at_286) (by decide) (by decide) ?_
        refine XS.iand X445.here hx rfl (hb hby at_290) rfl ?_
        show Steps p.tables e below (T445.setTop (mkF m 291 #[.val (.long zA), .second, .val (.long zB), .second, .val (.int p2), .val (.int p3), .val (.int p4), .val (.ref x1_b3), .val (.long (own_max (1 : Int64) (zA &&& (9223372036854775807 : Int64)))), .second, .val (.long (own_max (1 : Int64) (zA &&& (9223372036854775807 : Int64)))), .second, .val (.int (1 : Int32)), .val (.ref b302), .val (.ref b326), .val (.ref b370), .val (.int (1 : Int32)), .val (.int st443')] [(.int (1 : Int32))])) _
        exact kt
      · refine XS.ifNo X445.here hx rfl (hb hby at_274) rfl ((if0 _ _).trans (feq hc274).1) ?_
        refine XS.iconst X445.here hx rfl (hb hby at_277) ?_
        refine XS.goto X445.here hx rfl (pc0 := 278) (pc' := 282) rfl (hb hby at_278) (by decide) (by decide) ?_
        refine XS.icmpNo X445.here hx rfl (hb hby at_282) rfl (teq (own_b1 hc274)).2 ?_
        refine XS.iconst X445.here hx rfl (hb hby at_285) ?_
        refine XS.goto X445.here hx rfl (pc0 := 286) (pc' := 290) rfl (hb hby at_286) (by decide) (by decide) ?_
        refine XS.iand X445.here hx rfl (hb hby at_290) rfl ?_
        show Steps p.tables e below (T445.setTop (mkF m 291 #[.val (.long zA), .second, .val (.long zB), .second, .val (.int p2), .val (.int p3), .val (.int p4), .val (.ref x1_b3), .val (.long (own_max (1 : Int64) (zA &&& (9223372036854775807 : Int64)))), .second, .val (.long (own_max (1 : Int64) (zA &&& (9223372036854775807 : Int64)))), .second, .val (.int (1 : Int32)), .val (.ref b302), .val (.ref b326), .val (.ref b370), .val (.int (1 : Int32)), .val (.int st443')] [(.int (1 : Int32))])) _
        exact kt
    obtain ⟨fs, hr, hrun, hended, hEW⟩ := Jvm.Stand.leaveW X445 hS421 (by rw [e445]; exact hk444) (v := (some (.int (1 : Int32)))) (fun h => by rw [Bd.returns] at h; cases h)
    refine ⟨_, _, gp9 _ ?_, hrun, hended, _, _, rfl, ?_, ⟨_, rfl⟩, hEW.2.1, hEW.2.2.1, hEW.2.2.2.mono (by decide) (by decide)⟩
    · refine XS.ifNo X8.here hx rfl (hb hby at_27) rfl ((if0 _ _).trans (feq hc27).1) ?_
      refine XS.lload X8.here hx rfl (hb hby at_30) rfl ?_
      refine XS.goto X8.here hx rfl (pc0 := 32) (pc' := 44) rfl (hb hby at_32) (by decide) (by decide) ?_
      refine XS.lstore X8.here hx rfl (hb hby at_44) rfl (l' := #[.val (.long zA), .second, .val (.long zB), .second, .val (.int p2), .val (.int p3), .val (.int p4), .val (.ref x1_b3), .val (.long (own_max (1 : Int64) (zA &&& (9223372036854775807 : Int64)))), .second, .val (.long (own_max (1 : Int64) (zA &&& (9223372036854775807 : Int64)))), .second, .unset, .unset, .unset, .unset, .unset, .unset]) rfl ?_
      refine XS.lload X8.here hx rfl (hb hby at_46) rfl ?_
      refine XS.lload X8.here hx rfl (hb hby at_48) rfl ?_
      refine XS.lcmp X8.here hx rfl (hb hby at_50) rfl ?_
      refine XS.ifNo X8.here hx rfl (hb hby at_51) rfl ((if0 _ _).trans (teq ((lw_eq _ _).mpr rfl)).2) ?_
      refine XS.iconst X8.here hx rfl (hb hby at_54) ?_
      refine XS.goto X8.here hx rfl (pc0 := 55) (pc' := 59) rfl (hb hby at_55) (by decide) (by decide) ?_
      refine XS.istore X8.here hx rfl (hb hby at_59) rfl (l' := #[.val (.long zA), .second, .val (.long zB), .second, .val (.int p2), .val (.int p3), .val (.int p4), .val (.ref x1_b3), .val (.long (own_max (1 : Int64) (zA &&& (9223372036854775807 : Int64)))), .second, .val (.long (own_max (1 : Int64) (zA &&& (9223372036854775807 : Int64)))), .second, .val (.int (1 : Int32)), .unset, .unset, .unset, .unset, .unset]) rfl ?_
      refine st302 _ ?_
      refine XS.dup X302.here hx rfl (hb hby at_64) rfl rfl ?_
      refine XS.aload X302.here hx rfl (hb hby at_65) rfl rfl ?_
      refine st318.trans ?_
      refine XS.astore X318.here hx rfl (hb hby at_70) rfl rfl (l' := #[.val (.long zA), .second, .val (.long zB), .second, .val (.int p2), .val (.int p3), .val (.int p4), .val (.ref x1_b3), .val (.long (own_max (1 : Int64) (zA &&& (9223372036854775807 : Int64)))), .second, .val (.long (own_max (1 : Int64) (zA &&& (9223372036854775807 : Int64)))), .second, .val (.int (1 : Int32)), .val (.ref b302), .unset, .unset, .unset, .unset]) rfl ?_
      refine st326 _ ?_
      refine XS.dup X326.here hx rfl (hb hby at_75) rfl rfl ?_
      refine st340 _ ?_
      refine XS.dup X340.here hx rfl (hb hby at_79) rfl rfl ?_
      refine XS.aload X340.here hx rfl (hb hby at_80) rfl rfl ?_
      refine XS.lload X340.here hx rfl (hb hby at_82) rfl ?_
      refine st360.trans ?_
      refine st362 _ ?_
      refine st368.trans ?_
      refine XS.astore X368r.here hx rfl (hb hby at_93) rfl rfl (l' := #[.val (.long zA), .second, .val (.long zB), .second, .val (.int p2), .val (.int p3), .val (.int p4), .val (.ref x1_b3), .val (.long (own_max (1 : Int64) (zA &&& (9223372036854775807 : Int64)))), .second, .val (.long (own_max (1 : Int64) (zA &&& (9223372036854775807 : Int64)))), .second, .val (.int (1 : Int32)), .val (.ref b302), .val (.ref b326), .unset, .unset, .unset]) rfl ?_
      refine st370 _ ?_
      refine XS.dup X370.here hx rfl (hb hby at_98) rfl rfl ?_
      refine st389 _ ?_
      refine XS.dup X389.here hx rfl (hb hby at_102) rfl rfl ?_
      refine XS.aload X389.here hx rfl (hb hby at_103) rfl rfl ?_
      refine XS.lload X389.here hx rfl (hb hby at_105) rfl ?_
      refine st413.trans ?_
      refine st415 _ ?_
      refine st421.trans ?_
      refine XS.astore X421r.here hx rfl (hb hby at_116) rfl rfl (l' := #[.val (.long zA), .second, .val (.long zB), .second, .val (.int p2), .val (.int p3), .val (.int p4), .val (.ref x1_b3), .val (.long (own_max (1 : Int64) (zA &&& (9223372036854775807 : Int64)))), .second, .val (.long (own_max (1 : Int64) (zA &&& (9223372036854775807 : Int64)))), .second, .val (.int (1 : Int32)), .val (.ref b302), .val (.ref b326), .val (.ref b370), .unset, .unset]) rfl ?_
      refine XS.aload X421r.here hx rfl (hb hby at_118) rfl rfl ?_
      refine st425.trans ?_
      refine XS.ifNo X425.here hx rfl (hb hby at_123) rfl ((if0 _ _).trans (teq (by decide : (0 : Int32) = (0 : Int32))).2) ?_
      refine XS.iconst X425.here hx rfl (hb hby at_126) ?_
      refine XS.goto X425.here hx rfl (pc0 := 127) (pc' := 131) rfl (hb hby at_127) (by decide) (by decide) ?_
      refine XS.istore X425.here hx rfl (hb hby at_131) rfl (l' := #[.val (.long zA), .second, .val (.long zB), .second, .val (.int p2), .val (.int p3), .val (.int p4), .val (.ref x1_b3), .val (.long (own_max (1 : Int64) (zA &&& (9223372036854775807 : Int64)))), .second, .val (.long (own_max (1 : Int64) (zA &&& (9223372036854775807 : Int64)))), .second, .val (.int (1 : Int32)), .val (.ref b302), .val (.ref b326), .val (.ref b370), .val (.int (1 : Int32)), .unset]) rfl ?_
      refine XS.iconst X425.here hx rfl (hb hby at_133) ?_
      refine XS.istore X425.here hx rfl (hb hby at_134) rfl (l' := #[.val (.long zA), .second, .val (.long zB), .second, .val (.int p2), .val (.int p3), .val (.int p4), .val (.ref x1_b3), .val (.long (own_max (1 : Int64) (zA &&& (9223372036854775807 : Int64)))), .second, .val (.long (own_max (1 : Int64) (zA &&& (9223372036854775807 : Int64)))), .second, .val (.int (1 : Int32)), .val (.ref b302), .val (.ref b326), .val (.ref b370), .val (.int (1 : Int32)), .val (.int (0 : Int32))]) rfl ?_
      refine XS.aload X425.here hx rfl (hb hby at_136) rfl rfl ?_
      refine XS.iload X425.here hx rfl (hb hby at_138) rfl ?_
      refine XS.iconst X425.here hx rfl (hb hby at_140) ?_
      refine XS.iand X425.here hx rfl (hb hby at_141) rfl ?_
      refine XS.aload X425.here hx rfl (hb hby at_142) rfl rfl ?_
      refine XS.aload X425.here hx rfl (hb hby at_144) rfl rfl ?_
      refine XS.lload X425.here hx rfl (hb hby at_146) rfl ?_
      refine XS.lload X425.here hx rfl (hb hby at_148) rfl ?_
      refine XS.iload X425.here hx rfl (hb hby at_150) rfl ?_
      refine XS.iload X425.here hx rfl (hb hby at_152) rfl ?_
      refine st435 _ ?_
      refine XS.istore X435.here hx rfl (hb hby at_157) rfl (l' := #[.val (.long zA), .second, .val (.long zB), .second, .val (.int p2), .val (.int p3), .val (.int p4), .val (.ref x1_b3), .val (.long (own_max (1 : Int64) (zA &&& (9223372036854775807 : Int64)))), .second, .val (.long (own_max (1 : Int64) (zA &&& (9223372036854775807 : Int64)))), .second, .val (.int (1 : Int32)), .val (.ref b302), .val (.ref b326), .val (.ref b370), .val (.int (1 : Int32)), .val (.int st435')]) rfl ?_
      refine XS.iload X435.here hx rfl (hb hby at_159) rfl ?_
      refine XS.aload X435.here hx rfl (hb hby at_161) rfl rfl ?_
      refine st437.trans ?_
      refine XS.iload X437.here hx rfl (hb hby at_166) rfl ?_
      refine mg438 _ ?_
      refine XS.istore X437.here hx rfl (hb hby at_185) rfl (l' := #[.val (.long zA), .second, .val (.long zB), .second, .val (.int p2), .val (.int p3), .val (.int p4), .val (.ref x1_b3), .val (.long (own_max (1 : Int64) (zA &&& (9223372036854775807 : Int64)))), .second, .val (.long (own_max (1 : Int64) (zA &&& (9223372036854775807 : Int64)))), .second, .val (.int (1 : Int32)), .val (.ref b302), .val (.ref b326), .val (.ref b370), .val (.int (1 : Int32)), .val (.int st435')]) rfl ?_
      refine XS.aload X437.here hx rfl (hb hby at_187) rfl rfl ?_
      refine XS.iload X437.here hx rfl (hb hby at_189) rfl ?_
      refine XS.iconst X437.here hx rfl (hb hby at_191) ?_
      refine XS.ishr X437.here hx rfl (hb hby at_192) rfl ?_
      refine XS.iconst X437.here hx rfl (hb hby at_193) ?_
      refine XS.iand X437.here hx rfl (hb hby at_194) rfl ?_
      refine XS.aload X437.here hx rfl (hb hby at_195) rfl rfl ?_
      refine XS.aload X437.here hx rfl (hb hby at_197) rfl rfl ?_
      refine XS.lload X437.here hx rfl (hb hby at_199) rfl ?_
      refine XS.lload X437.here hx rfl (hb hby at_201) rfl ?_
      refine XS.iload X437.here hx rfl (hb hby at_203) rfl ?_
      refine XS.iload X437.here hx rfl (hb hby at_205) rfl ?_
      refine st439 _ ?_
      refine XS.istore X439.here hx rfl (hb hby at_210) rfl (l' := #[.val (.long zA), .second, .val (.long zB), .second, .val (.int p2), .val (.int p3), .val (.int p4), .val (.ref x1_b3), .val (.long (own_max (1 : Int64) (zA &&& (9223372036854775807 : Int64)))), .second, .val (.long (own_max (1 : Int64) (zA &&& (9223372036854775807 : Int64)))), .second, .val (.int (1 : Int32)), .val (.ref b302), .val (.ref b326), .val (.ref b370), .val (.int (1 : Int32)), .val (.int st439')]) rfl ?_
      refine XS.iload X439.here hx rfl (hb hby at_212) rfl ?_
      refine XS.aload X439.here hx rfl (hb hby at_214) rfl rfl ?_
      refine st441.trans ?_
      refine XS.iload X441.here hx rfl (hb hby at_219) rfl ?_
      refine mg442 _ ?_
      refine XS.istore X441.here hx rfl (hb hby at_238) rfl (l' := #[.val (.long zA), .second, .val (.long zB), .second, .val (.int p2), .val (.int p3), .val (.int p4), .val (.ref x1_b3), .val (.long (own_max (1 : Int64) (zA &&& (9223372036854775807 : Int64)))), .second, .val (.long (own_max (1 : Int64) (zA &&& (9223372036854775807 : Int64)))), .second, .val (.int (1 : Int32)), .val (.ref b302), .val (.ref b326), .val (.ref b370), .val (.int (1 : Int32)), .val (.int st439')]) rfl ?_
      refine XS.aload X441.here hx rfl (hb hby at_240) rfl rfl ?_
      refine XS.iload X441.here hx rfl (hb hby at_242) rfl ?_
      refine XS.iconst X441.here hx rfl (hb hby at_244) ?_
      refine XS.ishr X441.here hx rfl (hb hby at_245) rfl ?_
      refine XS.iconst X441.here hx rfl (hb hby at_246) ?_
      refine XS.iand X441.here hx rfl (hb hby at_247) rfl ?_
      refine XS.aload X441.here hx rfl (hb hby at_248) rfl rfl ?_
      refine XS.aload X441.here hx rfl (hb hby at_250) rfl rfl ?_
      refine XS.lload X441.here hx rfl (hb hby at_252) rfl ?_
      refine XS.lload X441.here hx rfl (hb hby at_254) rfl ?_
      refine XS.iload X441.here hx rfl (hb hby at_256) rfl ?_
      refine XS.iload X441.here hx rfl (hb hby at_258) rfl ?_
      refine st443 _ ?_
      refine XS.istore X443.here hx rfl (hb hby at_263) rfl (l' := #[.val (.long zA), .second, .val (.long zB), .second, .val (.int p2), .val (.int p3), .val (.int p4), .val (.ref x1_b3), .val (.long (own_max (1 : Int64) (zA &&& (9223372036854775807 : Int64)))), .second, .val (.long (own_max (1 : Int64) (zA &&& (9223372036854775807 : Int64)))), .second, .val (.int (1 : Int32)), .val (.ref b302), .val (.ref b326), .val (.ref b370), .val (.int (1 : Int32)), .val (.int st443')]) rfl ?_
      refine XS.iload X443.here hx rfl (hb hby at_265) rfl ?_
      refine XS.aload X443.here hx rfl (hb hby at_267) rfl rfl ?_
      refine st445.trans ?_
      refine XS.iload X445.here hx rfl (hb hby at_272) rfl ?_
      refine mg446 _ ?_
      refine XS.istore X445.here hx rfl (hb hby at_291) rfl (l' := #[.val (.long zA), .second, .val (.long zB), .second, .val (.int p2), .val (.int p3), .val (.int p4), .val (.ref x1_b3), .val (.long (own_max (1 : Int64) (zA &&& (9223372036854775807 : Int64)))), .second, .val (.long (own_max (1 : Int64) (zA &&& (9223372036854775807 : Int64)))), .second, .val (.int (1 : Int32)), .val (.ref b302), .val (.ref b326), .val (.ref b370), .val (.int (1 : Int32)), .val (.int st443')]) rfl ?_
      refine XS.iload X445.here hx rfl (hb hby at_293) rfl ?_
      exact retN X445 hx (t := .boolean) Bd.returns (by simp) (hb hby at_295) hr
    · show Q0 n0 _ T445.heap _
      rw [e445]
      exact ⟨rfl, N445⟩
set_option maxRecDepth 65536 in
set_option maxHeartbeats 40000000 in
theorem comes_1 {Post : Tables → Env → Array Value → State → Outcome → State → Prop} (hpost : ∀ tb e args s v u, (limb_1_1.after args s (.returned v) u = true ∧ limb_1_2.after args s (.returned v) u = true ∧ True) → ReturnedEndW s (.returned v) u (Jvm.fieldLocs frame_1_writes args s ++ Jvm.arrayLocs frame_1_arrays args s ++ Jvm.staticLocs frame_1_statics s) 40 4288 → Post tb e args s (.returned v) u) :
    ArmFor flags0 classFile x code maxLocals ret World_1 tables_1 room_1 Calls_1 rest_1 Pre_1 Post := by
  intro l hfl _ _ p e ha hc hk s m args below hf hA hF happ hP
  obtain ⟨hcalls, hrest, hpre⟩ := hP
  obtain ⟨-, -, -, hnamed, -, -, -, hat⟩ := (Spec.applies_iff hf).mp happ
  obtain ⟨hg, hn⟩ := and_e (Cond.before_iff.mp (show (Jvm.Cond.and given_1 narrow_1).before args s = true from hpre))
  obtain ⟨g0, r0⟩ := and_e hg
  obtain ⟨g1, r1⟩ := and_e r0
  obtain ⟨g2, r2⟩ := and_e r1
  obtain ⟨g3, r3⟩ := and_e r2
  obtain ⟨g4, r4⟩ := and_e r3
  obtain ⟨w0, w1, w2, w3, w4, rfl⟩ : ∃ w0 w1 w2 w3 w4 : Value, args = #[w0, w1, w2, w3, w4] := by
    have hs : args.size = 5 := by simpa [Cond.value, given_1] using g0
    obtain ⟨L⟩ := args
    match L, hs with
    | [w0, w1, w2, w3, w4], _ => exact ⟨w0, w1, w2, w3, w4, rfl⟩
  have hw := fun d (hd : d ∈ tables_1) => atoms_spec (ws := Jvm.Cond.code x code maxLocals ret :: tables_1) hat d (List.mem_cons_of_mem _ hd)
  have hfit : Fit s := fun {y c} hc i hi => by
    obtain ⟨ha, rfl⟩ := Array.getElem?_eq_some_iff.mp hc
    have q := List.all_eq_true.mp ((Array.all_eq_true_iff_forall_mem.mp hF) _ (Array.getElem_mem ha)) i (List.mem_range.mpr hi)
    simpa [Array.getElem?_eq_getElem hi] using q
  obtain ⟨hsets, hown0⟩ := atoms_of _ (rest_1_c_eq ▸ (show rest_1_c.before _ s = true from hrest))
  obtain ⟨i0, ei0⟩ := isL_v g1
  obtain rfl : w0 = (.long i0) := Option.some.inj ei0
  obtain ⟨i1, ei1⟩ := isL_v g2
  obtain rfl : w1 = (.long i1) := Option.some.inj ei1
  obtain ⟨i2, ei2⟩ := is_v g3
  obtain rfl : w2 = (.int i2) := Option.some.inj ei2
  obtain ⟨i3, ei3⟩ := is_v g4
  obtain rfl : w3 = (.int i3) := Option.some.inj ei3
  obtain ⟨i4, ei4⟩ := is_v r4
  obtain rfl : w4 = (.int i4) := Option.some.inj ei4
  obtain ⟨cs, aE, hS⟩ := own_sb (hsets _ (List.mem_of_getElem? (i := 0) rfl)) (hsets _ (List.mem_of_getElem? (i := 1) rfl)) (hsets _ (List.mem_of_getElem? (i := 2) rfl)) (hsets _ (List.mem_of_getElem? (i := 10) rfl)) (hsets _ (List.mem_of_getElem? (i := 11) rfl)) (hsets _ (List.mem_of_getElem? (i := 12) rfl))
  obtain ⟨n, o, h1, h2, h3, _, L, rfl, ⟨rfl, N⟩, hq⟩ := rm0 l s _ hw tables_1 cs aE hS i0 i1 i2 i3 i4 s.heap s.heap.size (Old.start s) p e ha hc hk s m _ below hf ((Spec.applies_iff_loose hf).mp happ).1 ⟨rfl, State.Warmed39.refl s, rfl⟩ trivial
  refine ⟨n, _, h1, h2, h3, hpost _ _ _ _ _ _ ⟨Cond.after_iff.mpr rfl, Cond.after_iff.mpr (eq_i res_at (Term.int_eval (1)) rfl), trivial⟩ ⟨hq.1, hq.2.1, hq.2.2.1, (hq.2.2.2.sift fun y hy => Or.inr (N y hy)).mono (by decide) (by decide)⟩⟩
theorem main_1_1 : Claimed_1_1 := comes_1 fun _ _ _ _ _ _ h hF => ⟨h.1, hF⟩
theorem main_1_2 : Claimed_1_2 := comes_1 fun _ _ _ _ _ _ h hF => ⟨h.2.1, hF⟩
end Jvm.Pilot.@@N@@
-- the witness, by the kit's program
namespace Jvm.Pilot.@@N@@
open Jvm Jvm.ClassFile Sem Op Lib Jvm.Free Jvm.Stand Jvm.Pilot.@@N@@.Jvm.D
/-! MADE BY PROGRAM (witnessworld.py) out of the Statement's table words and the real class files: 39 classes; the members and pool entries that the words name. The judged class is class 1, her method 1. -/
namespace start1
open Jvm.ClassFile
def u (s : String) : CpInfo := .utf8 (stringToUtf16 s)
/-- a pool by its gaps: so many unusable entries, then the entry; so many at the end -/
def gap : Nat → List CpInfo → List CpInfo
  | 0, r => r
  | n + 1, r => .unusable :: gap n r
def poolList (es : List (Nat × CpInfo)) (last : Nat) : List CpInfo := es.foldr (fun e r => gap e.1 (e.2 :: r)) (gap last [])
def pool (es : List (Nat × CpInfo)) (last : Nat) : Array CpInfo := ⟨poolList es last⟩
def fileOf (pool : Array CpInfo) (this : Nat) (attrs : Array Attribute := #[]) (ms : Array MethodInfo := #[]) (fl : Nat := 33) (sup : Nat := 0) (ifs : Array Nat := #[]) (fds : Array FieldInfo := #[]) : ClassFile where
  minorVersion := 0
  majorVersion := 65
  constantPool := pool
  accessFlags := fl
  thisClass := this
  superClass := sup
  interfaces := ifs
  fields := fds
  methods := ms
  attributes := attrs
def plain (name : String) (sup : Option ClassId) : Class where
  name := name
  kind := .ordinary
  loader := none
  accessFlags := 33
  super := sup
  interfaces := #[]
  cf := none
  fields := #[]
  methods := #[]
  instanceTypes := #[]
  staticTypes := #[]
  resolved := #[]
  callSites := []
  init := .initialized
  statics := none
  mirror := none

def pool0 : Array CpInfo := pool [(5, u "<init>"), (0, u "()V"), (1, .class_ 10), (1, u "java/lang/Object")] 113

def k0c0 : Code := { maxStack := 0, maxLocals := 1, code := object_method_1_code, exceptionTable := #[], attributes := #[] }
def k0m0 : Method := { name := "<init>", desc := "()V", sig := { parameters := [], returnType := none }, accessFlags := 1, code := some k0c0 }
/-- java/lang/Object -/
def k0 : Class := { plain "java/lang/Object" none with
  accessFlags := 33
  interfaces := #[]
  cf := some (fileOf pool0 8 #[] #[{ accessFlags := 1, nameIndex := 5, descriptorIndex := 6, attributes := #[] }] 33 0 #[] #[])
  fields := #[]
  methods := #[k0m0]
  instanceTypes := #[]
  staticTypes := #[]
  resolved := Array.replicate 124 none
  statics := none }

def pool1 : Array CpInfo := pool [(2, .class_ 4), (1, u "java/lang/Object"), (0, u "<init>"), (0, u "()V"), (0, .methodref 8 9), (0, .class_ 10), (0, .nameAndType 11 12), (0, u "java/lang/String"), (0, u "valueOf"), (0, u "(C)Ljava/lang/String;"), (2, .long 9223372036854775807), (1, .methodref 18 19), (0, .class_ 20), (0, .nameAndType 21 22), (0, u "java/lang/Math"), (0, u "max"), (0, u "(JJ)J"), (0, .class_ 24), (0, u "com/example/causal_delivery/causaldelivery/KnownOrigin"), (0, .methodref 23 26), (0, .nameAndType 5 27), (0, u "(Ljava/lang/String;)V"), (0, .class_ 29), (0, u "com/example/causal_delivery/causaldelivery/Predecessor"), (0, .class_ 31), (0, u "com/example/causal_delivery/causaldelivery/MessageId"), (0, .methodref 30 33), (0, .nameAndType 5 34), (0, u "(Ljava/lang/String;J)V"), (0, .methodref 36 37), (0, .class_ 38), (0, .nameAndType 39 40), (0, u "java/util/OptionalLong"), (0, u "empty"), (0, u "()Ljava/util/OptionalLong;"), (0, .methodref 28 42), (0, .nameAndType 5 43), (0, u "(Lcom/example/causal_delivery/causaldelivery/MessageId;Ljava/util/OptionalLong;)V"), (0, .methodref 23 45), (0, .nameAndType 46 47), (0, u "isNamed"), (0, u "()Z"), (0, .methodref 49 50), (0, .class_ 51), (0, .nameAndType 52 53), (0, u "com/example/causal_delivery/causaldelivery/KnownOriginIsNamedPinLaw"), (0, u "step"), (0, u "(Lcom/example/causal_delivery/causaldelivery/KnownOrigin;ILcom/example/causal_delivery/causaldelivery/Predecessor;Lcom/example/causal_delivery/causaldelivery/Predecessor;JJZI)I"), (0, .methodref 23 55), (0, .nameAndType 56 57), (0, u "name"), (0, u "(Lcom/example/causal_delivery/causaldelivery/Predecessor;)Lcom/example/causal_delivery/causaldelivery/Predecessor;"), (0, .methodref 23 59), (0, .nameAndType 60 61), (0, u "unname"), (0, u "(J)Lcom/example/causal_delivery/causaldelivery/Predecessor;"), (2, u "law"), (0, u "(JJIII)Z")] 3

def k1m0 : Method := { name := "<init>", desc := "()V", sig := { parameters := [], returnType := none }, accessFlags := 1, code := none }
def k1c1 : Code := { maxStack := 10, maxLocals := 18, code := code, exceptionTable := #[], attributes := #[] }
def k1m1 : Method := { name := "law", desc := "(JJIII)Z", sig := { parameters := [.long, .long, .int, .int, .int], returnType := some .boolean }, accessFlags := 9, code := some k1c1 }
def k1c2 : Code := { maxStack := 3, maxLocals := 10, code := method_3_code, exceptionTable := #[], attributes := #[] }
def k1m2 : Method := { name := "step", desc := "(Lcom/example/causal_delivery/causaldelivery/KnownOrigin;ILcom/example/causal_delivery/causaldelivery/Predecessor;Lcom/example/causal_delivery/causaldelivery/Predecessor;JJZI)I", sig := { parameters := [(.object "com/example/causal_delivery/causaldelivery/KnownOrigin"), .int, (.object "com/example/causal_delivery/causaldelivery/Predecessor"), (.object "com/example/causal_delivery/causaldelivery/Predecessor"), .long, .long, .boolean, .int], returnType := some .int }, accessFlags := 10, code := some k1c2 }
/-- com/example/causal_delivery/causaldelivery/KnownOriginIsNamedPinLaw -/
def k1 : Class := { plain "com/example/causal_delivery/causaldelivery/KnownOriginIsNamedPinLaw" (some 0) with
  accessFlags := 49
  interfaces := #[]
  cf := some (fileOf pool1 49 #[] #[{ accessFlags := 1, nameIndex := 5, descriptorIndex := 6, attributes := #[] }, { accessFlags := 9, nameIndex := 64, descriptorIndex := 65, attributes := #[] }, { accessFlags := 10, nameIndex := 52, descriptorIndex := 53, attributes := #[] }] 49 2 #[] #[])
  fields := #[]
  methods := #[k1m0, k1m1, k1m2]
  instanceTypes := #[]
  staticTypes := #[]
  resolved := Array.replicate 69 none
  statics := none }

def pool2 : Array CpInfo := pool [(1, .class_ 2), (0, u "java/io/Serializable"), (0, .class_ 4), (0, u "java/lang/Object")] 2

/-- java/io/Serializable -/
def k2 : Class := { plain "java/io/Serializable" (some 0) with
  accessFlags := 1537
  interfaces := #[]
  cf := some (fileOf pool2 1 #[] #[] 1537 3 #[] #[])
  fields := #[]
  methods := #[]
  instanceTypes := #[]
  staticTypes := #[]
  resolved := Array.replicate 7 none
  statics := none }

def pool3 : Array CpInfo := pool [(1, .class_ 2), (0, u "java/lang/Comparable"), (0, .class_ 4), (0, u "java/lang/Object")] 7

/-- java/lang/Comparable -/
def k3 : Class := { plain "java/lang/Comparable" (some 0) with
  accessFlags := 1537
  interfaces := #[]
  cf := some (fileOf pool3 1 #[] #[] 1537 3 #[] #[])
  fields := #[]
  methods := #[]
  instanceTypes := #[]
  staticTypes := #[]
  resolved := Array.replicate 12 none
  statics := none }

def pool4 : Array CpInfo := pool [(2, .class_ 4), (1, u "java/lang/CharSequence"), (42, .class_ 48), (0, u "java/lang/CharSequence$1CodePointIterator"), (10, .class_ 60), (0, u "java/lang/CharSequence$1CharIterator"), (5, .class_ 67), (0, u "java/lang/Object")] 63

/-- java/lang/CharSequence -/
def k4 : Class := { plain "java/lang/CharSequence" (some 0) with
  accessFlags := 1537
  interfaces := #[]
  cf := some (fileOf pool4 2 #[.nestMembers #[47, 59]] #[] 1537 66 #[] #[])
  fields := #[]
  methods := #[]
  instanceTypes := #[]
  staticTypes := #[]
  resolved := Array.replicate 131 none
  statics := none }

def pool5 : Array CpInfo := pool [(1, .class_ 2), (0, u "java/lang/constant/Constable"), (0, .class_ 4), (0, u "java/lang/Object")] 6

/-- java/lang/constant/Constable -/
def k5 : Class := { plain "java/lang/constant/Constable" (some 0) with
  accessFlags := 1537
  interfaces := #[]
  cf := some (fileOf pool5 1 #[] #[] 1537 3 #[] #[])
  fields := #[]
  methods := #[]
  instanceTypes := #[]
  staticTypes := #[]
  resolved := Array.replicate 11 none
  statics := none }

def pool6 : Array CpInfo := pool [(1, .class_ 2), (0, u "java/lang/constant/ConstantDesc"), (0, .class_ 4), (0, u "java/lang/Object")] 32

/-- java/lang/constant/ConstantDesc -/
def k6 : Class := { plain "java/lang/constant/ConstantDesc" (some 0) with
  accessFlags := 1537
  interfaces := #[]
  cf := some (fileOf pool6 1 #[] #[] 1537 3 #[] #[])
  fields := #[]
  methods := #[]
  instanceTypes := #[]
  staticTypes := #[]
  resolved := Array.replicate 37 none
  statics := none }

def pool7 : Array CpInfo := pool [(1, .methodref 2 3), (0, .class_ 4), (0, .nameAndType 5 6), (0, u "java/lang/Object"), (0, u "<init>"), (0, u "()V"), (2, .fieldref 10 11), (0, .class_ 12), (0, .nameAndType 13 14), (0, u "java/lang/String"), (0, u "value"), (0, u "[B"), (0, .fieldref 10 16), (0, .nameAndType 17 18), (0, u "coder"), (0, u "B"), (2, u "hash"), (0, u "I"), (2, u "hashIsZero"), (0, u "Z"), (11, .fieldref 10 39), (0, .nameAndType 40 26), (0, u "COMPACT_STRINGS"), (12, u "toBytes"), (53, .class_ 109), (1, u "java/lang/StringLatin1"), (32, u "()Z"), (66, .methodref 10 210), (0, .nameAndType 5 211), (0, u "([BB)V"), (157, u "(C)Z"), (205, .class_ 576), (0, u "java/lang/CharSequence"), (22, u "CASE_INSENSITIVE_ORDER"), (0, u "Ljava/util/Comparator;"), (91, u "isEmpty"), (89, u "valueOf"), (0, u "(C)Ljava/lang/String;"), (231, .methodref 107 1016), (0, .nameAndType 1017 369), (0, u "canEncode"), (0, .methodref 107 1019), (0, .nameAndType 53 1020), (0, u "(C)[B"), (80, u "serialPersistentFields"), (0, u "[Ljava/io/ObjectStreamField;"), (0, .class_ 1104), (0, u "java/lang/String$CaseInsensitiveComparator"), (1, .class_ 1107), (0, u "java/io/Serializable"), (0, .class_ 1109), (0, u "java/lang/Comparable"), (0, .class_ 1111), (0, u "java/lang/constant/Constable"), (0, .class_ 1113), (0, u "java/lang/constant/ConstantDesc"), (2, u "serialVersionUID"), (0, u "J"), (3, u "REPL"), (0, u "C"), (2, u "LATIN1"), (1, u "UTF16")] 323

def k7m0 : Method := { name := "<init>", desc := "()V", sig := { parameters := [], returnType := none }, accessFlags := 1, code := none }
def k7c1 : Code := { maxStack := 1, maxLocals := 1, code := jdk_42_method_55_code, exceptionTable := #[], attributes := #[] }
def k7m1 : Method := { name := "isEmpty", desc := "()Z", sig := { parameters := [], returnType := some .boolean }, accessFlags := 1, code := some k7c1 }
def k7c2 : Code := { maxStack := 4, maxLocals := 1, code := jdk_42_method_139_code, exceptionTable := #[], attributes := #[] }
def k7m2 : Method := { name := "valueOf", desc := "(C)Ljava/lang/String;", sig := { parameters := [.char], returnType := some (.object "java/lang/String") }, accessFlags := 9, code := some k7c2 }
def k7c3 : Code := { maxStack := 2, maxLocals := 3, code := jdk_42_method_151_code, exceptionTable := #[], attributes := #[] }
def k7m3 : Method := { name := "<init>", desc := "([BB)V", sig := { parameters := [(.array .byte), .byte], returnType := none }, accessFlags := 0, code := some k7c3 }
/-- java/lang/String -/
def k7 : Class := { plain "java/lang/String" (some 0) with
  accessFlags := 49
  interfaces := #[2, 3, 4, 5, 6]
  cf := some (fileOf pool7 10 #[.nestMembers #[1103]] #[{ accessFlags := 1, nameIndex := 5, descriptorIndex := 6, attributes := #[] }, { accessFlags := 1, nameIndex := 692, descriptorIndex := 142, attributes := #[] }, { accessFlags := 9, nameIndex := 782, descriptorIndex := 783, attributes := #[] }, { accessFlags := 0, nameIndex := 5, descriptorIndex := 211, attributes := #[] }] 49 2 #[1106, 1108, 575, 1110, 1112] #[{ accessFlags := 18, nameIndex := 13, descriptorIndex := 14, attributes := #[] }, { accessFlags := 18, nameIndex := 17, descriptorIndex := 18, attributes := #[] }, { accessFlags := 2, nameIndex := 21, descriptorIndex := 22, attributes := #[] }, { accessFlags := 2, nameIndex := 25, descriptorIndex := 26, attributes := #[] }, { accessFlags := 26, nameIndex := 1116, descriptorIndex := 1117, attributes := #[] }, { accessFlags := 24, nameIndex := 40, descriptorIndex := 26, attributes := #[] }, { accessFlags := 26, nameIndex := 1101, descriptorIndex := 1102, attributes := #[] }, { accessFlags := 26, nameIndex := 1121, descriptorIndex := 1122, attributes := #[] }, { accessFlags := 25, nameIndex := 599, descriptorIndex := 600, attributes := #[] }, { accessFlags := 24, nameIndex := 1125, descriptorIndex := 18, attributes := #[] }, { accessFlags := 24, nameIndex := 1127, descriptorIndex := 18, attributes := #[] }])
  fields := #[{ name := "value", type := (.array .byte), accessFlags := 18, slot := 0, constantValue := 0 }, { name := "coder", type := .byte, accessFlags := 18, slot := 1, constantValue := 0 }, { name := "hash", type := .int, accessFlags := 2, slot := 2, constantValue := 0 }, { name := "hashIsZero", type := .boolean, accessFlags := 2, slot := 3, constantValue := 0 }, { name := "serialVersionUID", type := .long, accessFlags := 26, slot := 0, constantValue := 0 }, { name := "COMPACT_STRINGS", type := .boolean, accessFlags := 24, slot := 1, constantValue := 0 }, { name := "serialPersistentFields", type := (.array (.object "java/io/ObjectStreamField")), accessFlags := 26, slot := 2, constantValue := 0 }, { name := "REPL", type := .char, accessFlags := 26, slot := 3, constantValue := 0 }, { name := "CASE_INSENSITIVE_ORDER", type := (.object "java/util/Comparator"), accessFlags := 25, slot := 4, constantValue := 0 }, { name := "LATIN1", type := .byte, accessFlags := 24, slot := 5, constantValue := 0 }, { name := "UTF16", type := .byte, accessFlags := 24, slot := 6, constantValue := 0 }]
  methods := #[k7m0, k7m1, k7m2, k7m3]
  instanceTypes := #[(.array .byte), .byte, .int, .boolean]
  staticTypes := #[.long, .boolean, (.array (.object "java/io/ObjectStreamField")), .char, (.object "java/util/Comparator"), .byte, .byte]
  resolved := Array.replicate 1451 none
  statics := some 0 }

def pool8 : Array CpInfo := pool [(4, .class_ 6), (1, u "java/lang/Object"), (0, u "<init>"), (0, u "()V"), (5, .class_ 16), (1, u "java/lang/StringLatin1"), (73, u "canEncode"), (14, u "(C)Z"), (15, u "$assertionsDisabled"), (0, u "Z"), (98, .class_ 223), (1, u "java/lang/StringLatin1$LinesSpliterator"), (156, u "toBytes"), (1, u "(C)[B"), (7, .class_ 391), (0, u "java/lang/StringLatin1$CharsSpliterator")] 3

def k8m0 : Method := { name := "<init>", desc := "()V", sig := { parameters := [], returnType := none }, accessFlags := 0, code := none }
def k8c1 : Code := { maxStack := 2, maxLocals := 1, code := jdk_43_method_3_code, exceptionTable := #[], attributes := #[] }
def k8m1 : Method := { name := "canEncode", desc := "(C)Z", sig := { parameters := [.char], returnType := some .boolean }, accessFlags := 9, code := some k8c1 }
def k8c2 : Code := { maxStack := 4, maxLocals := 1, code := jdk_43_method_46_code, exceptionTable := #[], attributes := #[] }
def k8m2 : Method := { name := "toBytes", desc := "(C)[B", sig := { parameters := [.char], returnType := some (.array .byte) }, accessFlags := 9, code := some k8c2 }
/-- java/lang/StringLatin1 -/
def k8 : Class := { plain "java/lang/StringLatin1" (some 0) with
  accessFlags := 48
  interfaces := #[]
  cf := some (fileOf pool8 14 #[.nestMembers #[390, 221]] #[{ accessFlags := 0, nameIndex := 7, descriptorIndex := 8, attributes := #[] }, { accessFlags := 9, nameIndex := 90, descriptorIndex := 105, attributes := #[] }, { accessFlags := 9, nameIndex := 380, descriptorIndex := 382, attributes := #[] }] 48 4 #[] #[{ accessFlags := 4120, nameIndex := 121, descriptorIndex := 122, attributes := #[] }])
  fields := #[{ name := "$assertionsDisabled", type := .boolean, accessFlags := 4120, slot := 0, constantValue := 0 }]
  methods := #[k8m0, k8m1, k8m2]
  instanceTypes := #[]
  staticTypes := #[.boolean]
  resolved := Array.replicate 395 none
  statics := none }

def pool9 : Array CpInfo := pool [(1, .class_ 2), (0, u "java/lang/Math"), (1, .class_ 6), (1, u "java/lang/Object"), (0, u "<init>"), (0, u "()V"), (89, .class_ 100), (1, u "java/lang/Math$RandomNumberGeneratorHolder"), (20, u "(JJ)J"), (50, u "negativeZeroFloatBits"), (0, u "J"), (2, u "negativeZeroDoubleBits"), (21, u "max"), (46, u "$assertionsDisabled"), (0, u "Z"), (91, u "twoToTheDoubleScaleDown"), (0, u "D"), (4, u "twoToTheDoubleScaleUp"), (9, u "E"), (3, u "PI"), (2, u "TAU"), (2, u "DEGREES_TO_RADIANS"), (0, u "RADIANS_TO_DEGREES")] 94

def k9m0 : Method := { name := "<init>", desc := "()V", sig := { parameters := [], returnType := none }, accessFlags := 2, code := none }
def k9c1 : Code := { maxStack := 4, maxLocals := 4, code := jdk_29_method_66_code, exceptionTable := #[], attributes := #[] }
def k9m1 : Method := { name := "max", desc := "(JJ)J", sig := { parameters := [.long, .long], returnType := some .long }, accessFlags := 9, code := some k9c1 }
/-- java/lang/Math -/
def k9 : Class := { plain "java/lang/Math" (some 0) with
  accessFlags := 49
  interfaces := #[]
  cf := some (fileOf pool9 1 #[.nestMembers #[98]] #[{ accessFlags := 2, nameIndex := 7, descriptorIndex := 8, attributes := #[] }, { accessFlags := 9, nameIndex := 198, descriptorIndex := 121, attributes := #[] }] 49 4 #[] #[{ accessFlags := 25, nameIndex := 354, descriptorIndex := 339, attributes := #[] }, { accessFlags := 25, nameIndex := 358, descriptorIndex := 339, attributes := #[] }, { accessFlags := 25, nameIndex := 361, descriptorIndex := 339, attributes := #[] }, { accessFlags := 26, nameIndex := 364, descriptorIndex := 339, attributes := #[] }, { accessFlags := 26, nameIndex := 365, descriptorIndex := 339, attributes := #[] }, { accessFlags := 26, nameIndex := 172, descriptorIndex := 173, attributes := #[] }, { accessFlags := 26, nameIndex := 176, descriptorIndex := 173, attributes := #[] }, { accessFlags := 8, nameIndex := 344, descriptorIndex := 339, attributes := #[] }, { accessFlags := 8, nameIndex := 338, descriptorIndex := 339, attributes := #[] }, { accessFlags := 4120, nameIndex := 245, descriptorIndex := 246, attributes := #[] }])
  fields := #[{ name := "E", type := .double, accessFlags := 25, slot := 0, constantValue := 0 }, { name := "PI", type := .double, accessFlags := 25, slot := 1, constantValue := 0 }, { name := "TAU", type := .double, accessFlags := 25, slot := 2, constantValue := 0 }, { name := "DEGREES_TO_RADIANS", type := .double, accessFlags := 26, slot := 3, constantValue := 0 }, { name := "RADIANS_TO_DEGREES", type := .double, accessFlags := 26, slot := 4, constantValue := 0 }, { name := "negativeZeroFloatBits", type := .long, accessFlags := 26, slot := 5, constantValue := 0 }, { name := "negativeZeroDoubleBits", type := .long, accessFlags := 26, slot := 6, constantValue := 0 }, { name := "twoToTheDoubleScaleUp", type := .double, accessFlags := 8, slot := 7, constantValue := 0 }, { name := "twoToTheDoubleScaleDown", type := .double, accessFlags := 8, slot := 8, constantValue := 0 }, { name := "$assertionsDisabled", type := .boolean, accessFlags := 4120, slot := 9, constantValue := 0 }]
  methods := #[k9m0, k9m1]
  instanceTypes := #[]
  staticTypes := #[.double, .double, .double, .double, .double, .long, .long, .double, .double, .boolean]
  resolved := Array.replicate 460 none
  statics := none }

def pool10 : Array CpInfo := pool [(1, .methodref 2 3), (0, .class_ 4), (0, .nameAndType 5 6), (0, u "java/lang/Object"), (0, u "<init>"), (0, u "()V"), (0, .class_ 8), (0, u "java/util/TreeMap"), (0, .methodref 7 3), (0, .fieldref 11 12), (0, .class_ 13), (0, .nameAndType 14 15), (0, u "com/example/causal_delivery/causaldelivery/KnownOrigin"), (0, u "runs"), (0, u "Ljava/util/NavigableMap;"), (0, .fieldref 11 17), (0, .nameAndType 18 19), (0, u "identifier"), (0, u "Ljava/lang/String;"), (2, u "highestLast"), (0, u "J"), (2, u "highestFirst"), (28, .methodref 56 57), (0, .class_ 58), (0, .nameAndType 59 60), (0, u "com/example/causal_delivery/causaldelivery/Predecessor"), (0, u "id"), (0, u "()Lcom/example/causal_delivery/causaldelivery/MessageId;"), (0, .methodref 62 63), (0, .class_ 64), (0, .nameAndType 65 66), (0, u "com/example/causal_delivery/causaldelivery/MessageId"), (0, u "seq"), (0, u "()J"), (7, .nameAndType 75 76), (0, u "isEmpty"), (0, u "()Z"), (9, u "remove"), (11, .fieldref 11 99), (0, .nameAndType 100 101), (0, u "named"), (0, u "Lcom/example/causal_delivery/causaldelivery/Predecessor;"), (0, .fieldref 11 103), (0, .nameAndType 104 23), (0, u "namedSeq"), (0, .fieldref 11 106), (0, .nameAndType 107 108), (0, u "alsoNamed"), (0, u "Ljava/util/List;"), (1, .class_ 112), (1, u "java/util/List"), (10, .class_ 124), (0, u "java/util/ArrayList"), (0, .methodref 123 126), (0, .nameAndType 5 127), (0, u "(I)V"), (0, .interfaceMethodref 110 129), (0, .nameAndType 130 131), (0, u "size"), (0, u "()I"), (0, .interfaceMethodref 110 133), (0, .nameAndType 134 135), (0, u "get"), (0, u "(I)Ljava/lang/Object;"), (0, .interfaceMethodref 110 137), (0, .nameAndType 138 139), (0, u "set"), (0, u "(ILjava/lang/Object;)Ljava/lang/Object;"), (0, .interfaceMethodref 110 141), (0, .nameAndType 142 143), (0, u "add"), (0, u "(Ljava/lang/Object;)Z"), (0, .interfaceMethodref 110 145), (0, .nameAndType 86 135), (0, .interfaceMethodref 110 74), (15, u "(Ljava/lang/String;)V"), (15, u "(J)Lcom/example/causal_delivery/causaldelivery/Predecessor;"), (0, u "name"), (0, u "(Lcom/example/causal_delivery/causaldelivery/Predecessor;)Lcom/example/causal_delivery/causaldelivery/Predecessor;"), (0, u "unname"), (0, u "isNamed")] 12

def k10c0 : Code := { maxStack := 3, maxLocals := 2, code := prog_22_method_1_code, exceptionTable := #[], attributes := #[] }
def k10m0 : Method := { name := "<init>", desc := "(Ljava/lang/String;)V", sig := { parameters := [(.object "java/lang/String")], returnType := none }, accessFlags := 0, code := some k10c0 }
def k10c1 : Code := { maxStack := 4, maxLocals := 5, code := prog_22_method_11_code, exceptionTable := #[], attributes := #[] }
def k10m1 : Method := { name := "name", desc := "(Lcom/example/causal_delivery/causaldelivery/Predecessor;)Lcom/example/causal_delivery/causaldelivery/Predecessor;", sig := { parameters := [(.object "com/example/causal_delivery/causaldelivery/Predecessor")], returnType := some (.object "com/example/causal_delivery/causaldelivery/Predecessor") }, accessFlags := 0, code := some k10c1 }
def k10c2 : Code := { maxStack := 4, maxLocals := 5, code := prog_22_method_12_code, exceptionTable := #[], attributes := #[] }
def k10m2 : Method := { name := "unname", desc := "(J)Lcom/example/causal_delivery/causaldelivery/Predecessor;", sig := { parameters := [.long], returnType := some (.object "com/example/causal_delivery/causaldelivery/Predecessor") }, accessFlags := 0, code := some k10c2 }
def k10c3 : Code := { maxStack := 1, maxLocals := 1, code := prog_22_method_13_code, exceptionTable := #[], attributes := #[] }
def k10m3 : Method := { name := "isNamed", desc := "()Z", sig := { parameters := [], returnType := some .boolean }, accessFlags := 0, code := some k10c3 }
/-- com/example/causal_delivery/causaldelivery/KnownOrigin -/
def k10 : Class := { plain "com/example/causal_delivery/causaldelivery/KnownOrigin" (some 0) with
  accessFlags := 48
  interfaces := #[]
  cf := some (fileOf pool10 11 #[] #[{ accessFlags := 0, nameIndex := 5, descriptorIndex := 162, attributes := #[] }, { accessFlags := 0, nameIndex := 179, descriptorIndex := 180, attributes := #[] }, { accessFlags := 0, nameIndex := 181, descriptorIndex := 178, attributes := #[] }, { accessFlags := 0, nameIndex := 182, descriptorIndex := 76, attributes := #[] }] 48 2 #[] #[{ accessFlags := 18, nameIndex := 18, descriptorIndex := 19, attributes := #[] }, { accessFlags := 18, nameIndex := 14, descriptorIndex := 15, attributes := #[] }, { accessFlags := 2, nameIndex := 26, descriptorIndex := 23, attributes := #[] }, { accessFlags := 2, nameIndex := 22, descriptorIndex := 23, attributes := #[] }, { accessFlags := 2, nameIndex := 100, descriptorIndex := 101, attributes := #[] }, { accessFlags := 2, nameIndex := 104, descriptorIndex := 23, attributes := #[] }, { accessFlags := 2, nameIndex := 107, descriptorIndex := 108, attributes := #[] }])
  fields := #[{ name := "identifier", type := (.object "java/lang/String"), accessFlags := 18, slot := 0, constantValue := 0 }, { name := "runs", type := (.object "java/util/NavigableMap"), accessFlags := 18, slot := 1, constantValue := 0 }, { name := "highestFirst", type := .long, accessFlags := 2, slot := 2, constantValue := 0 }, { name := "highestLast", type := .long, accessFlags := 2, slot := 3, constantValue := 0 }, { name := "named", type := (.object "com/example/causal_delivery/causaldelivery/Predecessor"), accessFlags := 2, slot := 4, constantValue := 0 }, { name := "namedSeq", type := .long, accessFlags := 2, slot := 5, constantValue := 0 }, { name := "alsoNamed", type := (.object "java/util/List"), accessFlags := 2, slot := 6, constantValue := 0 }]
  methods := #[k10m0, k10m1, k10m2, k10m3]
  instanceTypes := #[(.object "java/lang/String"), (.object "java/util/NavigableMap"), .long, .long, (.object "com/example/causal_delivery/causaldelivery/Predecessor"), .long, (.object "java/util/List")]
  staticTypes := #[]
  resolved := Array.replicate 195 none
  statics := none }

def pool11 : Array CpInfo := pool [(2, .class_ 4), (1, u "java/util/Map"), (31, .class_ 37), (0, u "java/util/Map$Entry"), (55, .class_ 94), (0, u "java/lang/Object")] 168

/-- java/util/Map -/
def k11 : Class := { plain "java/util/Map" (some 0) with
  accessFlags := 1537
  interfaces := #[]
  cf := some (fileOf pool11 2 #[.nestMembers #[36]] #[] 1537 93 #[] #[])
  fields := #[]
  methods := #[]
  instanceTypes := #[]
  staticTypes := #[]
  resolved := Array.replicate 263 none
  statics := none }

def pool12 : Array CpInfo := pool [(1, .methodref 2 3), (0, .class_ 4), (0, .nameAndType 5 6), (0, u "java/lang/Object"), (0, u "<init>"), (0, u "()V"), (1, .class_ 10), (1, u "java/util/AbstractMap"), (42, .class_ 54), (0, u "java/util/Map"), (9, u "keySet"), (0, u "Ljava/util/Set;"), (0, .class_ 67), (0, u "java/util/AbstractMap$1"), (5, u "values"), (0, u "Ljava/util/Collection;"), (0, .class_ 76), (0, u "java/util/AbstractMap$2"), (104, .class_ 182), (0, u "java/util/AbstractMap$ViewCollection"), (0, .class_ 184), (0, u "java/util/AbstractMap$SimpleImmutableEntry"), (0, .class_ 186), (0, u "java/util/AbstractMap$SimpleEntry"), (0, .class_ 188), (0, u "java/util/AbstractMap$2$1"), (0, .class_ 190), (0, u "java/util/AbstractMap$1$1")] 5

def k12c0 : Code := { maxStack := 1, maxLocals := 1, code := jdk_71_method_1_code, exceptionTable := #[], attributes := #[] }
def k12m0 : Method := { name := "<init>", desc := "()V", sig := { parameters := [], returnType := none }, accessFlags := 4, code := some k12c0 }
/-- java/util/AbstractMap -/
def k12 : Class := { plain "java/util/AbstractMap" (some 0) with
  accessFlags := 1057
  interfaces := #[11]
  cf := some (fileOf pool12 8 #[.nestMembers #[181, 183, 185, 75, 187, 66, 189]] #[{ accessFlags := 4, nameIndex := 5, descriptorIndex := 6, attributes := #[] }] 1057 2 #[53] #[{ accessFlags := 128, nameIndex := 64, descriptorIndex := 65, attributes := #[] }, { accessFlags := 128, nameIndex := 73, descriptorIndex := 74, attributes := #[] }])
  fields := #[{ name := "keySet", type := (.object "java/util/Set"), accessFlags := 128, slot := 0, constantValue := 0 }, { name := "values", type := (.object "java/util/Collection"), accessFlags := 128, slot := 1, constantValue := 0 }]
  methods := #[k12m0]
  instanceTypes := #[(.object "java/util/Set"), (.object "java/util/Collection")]
  staticTypes := #[]
  resolved := Array.replicate 196 none
  statics := none }

def pool13 : Array CpInfo := pool [(2, .class_ 4), (1, u "java/util/SequencedMap"), (38, .class_ 44), (0, u "java/util/SequencedMap$1SeqKeySet"), (3, .class_ 49), (0, u "java/util/SequencedMap$1SeqValues"), (1, .class_ 52), (0, u "java/util/SequencedMap$1SeqEntrySet"), (1, .class_ 55), (0, u "java/lang/Object"), (0, .class_ 57), (0, u "java/util/Map")] 48

/-- java/util/SequencedMap -/
def k13 : Class := { plain "java/util/SequencedMap" (some 0) with
  accessFlags := 1537
  interfaces := #[11]
  cf := some (fileOf pool13 2 #[.nestMembers #[51, 48, 43]] #[] 1537 54 #[56] #[])
  fields := #[]
  methods := #[]
  instanceTypes := #[]
  staticTypes := #[]
  resolved := Array.replicate 106 none
  statics := none }

def pool14 : Array CpInfo := pool [(14, .class_ 16), (1, u "java/util/SortedMap"), (2, .class_ 20), (0, u "java/lang/Object"), (0, .class_ 22), (0, u "java/util/SequencedMap")] 50

/-- java/util/SortedMap -/
def k14 : Class := { plain "java/util/SortedMap" (some 0) with
  accessFlags := 1537
  interfaces := #[13]
  cf := some (fileOf pool14 14 #[] #[] 1537 19 #[21] #[])
  fields := #[]
  methods := #[]
  instanceTypes := #[]
  staticTypes := #[]
  resolved := Array.replicate 73 none
  statics := none }

def pool15 : Array CpInfo := pool [(2, .class_ 4), (1, u "java/util/NavigableMap"), (5, .class_ 11), (0, u "java/lang/Object"), (0, .class_ 13), (0, u "java/util/SortedMap")] 53

/-- java/util/NavigableMap -/
def k15 : Class := { plain "java/util/NavigableMap" (some 0) with
  accessFlags := 1537
  interfaces := #[14]
  cf := some (fileOf pool15 2 #[] #[] 1537 10 #[12] #[])
  fields := #[]
  methods := #[]
  instanceTypes := #[]
  staticTypes := #[]
  resolved := Array.replicate 67 none
  statics := none }

def pool16 : Array CpInfo := pool [(1, .class_ 2), (0, u "java/lang/Cloneable"), (0, .class_ 4), (0, u "java/lang/Object")] 2

/-- java/lang/Cloneable -/
def k16 : Class := { plain "java/lang/Cloneable" (some 0) with
  accessFlags := 1537
  interfaces := #[]
  cf := some (fileOf pool16 1 #[] #[] 1537 3 #[] #[])
  fields := #[]
  methods := #[]
  instanceTypes := #[]
  staticTypes := #[]
  resolved := Array.replicate 7 none
  statics := none }

def pool17 : Array CpInfo := pool [(1, .methodref 2 3), (0, .class_ 4), (0, .nameAndType 5 6), (0, u "java/util/AbstractMap"), (0, u "<init>"), (0, u "()V"), (0, .fieldref 8 9), (0, .class_ 10), (0, .nameAndType 11 12), (0, u "java/util/TreeMap"), (0, u "size"), (0, u "I"), (0, .fieldref 8 14), (0, .nameAndType 15 12), (0, u "modCount"), (0, .fieldref 8 17), (0, .nameAndType 18 19), (0, u "comparator"), (0, u "Ljava/util/Comparator;"), (14, u "entrySet"), (24, .class_ 61), (1, u "java/util/TreeMap$Entry"), (1, u "Ljava/lang/Object;"), (39, u "root"), (0, u "Ljava/util/TreeMap$Entry;"), (85, u "Ljava/util/TreeMap$EntrySet;"), (2, u "navigableKeySet"), (0, u "Ljava/util/TreeMap$KeySet;"), (2, u "descendingMap"), (0, u "Ljava/util/NavigableMap;"), (23, .class_ 223), (0, u "java/util/TreeMap$KeySet"), (7, .class_ 232), (0, u "java/util/NavigableMap"), (4, .class_ 238), (0, u "java/util/TreeMap$Values"), (3, .class_ 243), (0, u "java/util/TreeMap$EntrySet"), (1, .class_ 246), (0, u "java/util/TreeMap$DescendingSubMap"), (3, .class_ 251), (0, u "java/util/TreeMap$AscendingSubMap"), (17, .class_ 270), (0, u "java/util/TreeMap$KeyIterator"), (3, .class_ 275), (0, u "java/util/TreeMap$DescendingKeyIterator"), (17, u "Z"), (94, .class_ 389), (0, u "java/util/TreeMap$NavigableSubMap"), (1, .class_ 392), (0, u "java/util/TreeMap$KeySpliterator"), (3, .class_ 397), (0, u "java/util/TreeMap$DescendingKeySpliterator"), (4, u "UNBOUNDED"), (0, .class_ 404), (0, u "java/lang/Cloneable"), (0, .class_ 406), (0, u "java/io/Serializable"), (6, u "RED"), (2, u "BLACK"), (1, u "serialVersionUID"), (0, u "J"), (214, .class_ 635), (0, u "java/util/TreeMap$EntrySpliterator"), (0, .class_ 637), (0, u "java/util/TreeMap$ValueSpliterator"), (0, .class_ 639), (0, u "java/util/TreeMap$TreeMapSpliterator"), (0, .class_ 641), (0, u "java/util/TreeMap$SubMap"), (0, .class_ 643), (0, u "java/util/TreeMap$DescendingSubMap$DescendingEntrySetView"), (0, .class_ 645), (0, u "java/util/TreeMap$AscendingSubMap$AscendingEntrySetView"), (0, .class_ 647), (0, u "java/util/TreeMap$NavigableSubMap$DescendingSubMapKeyIterator"), (0, .class_ 649), (0, u "java/util/TreeMap$NavigableSubMap$SubMapKeyIterator"), (0, .class_ 651), (0, u "java/util/TreeMap$NavigableSubMap$DescendingSubMapEntryIterator"), (0, .class_ 653), (0, u "java/util/TreeMap$NavigableSubMap$SubMapEntryIterator"), (0, .class_ 655), (0, u "java/util/TreeMap$NavigableSubMap$SubMapIterator"), (0, .class_ 657), (0, u "java/util/TreeMap$NavigableSubMap$EntrySetView"), (0, .class_ 659), (0, u "java/util/TreeMap$ValueIterator"), (0, .class_ 661), (0, u "java/util/TreeMap$EntryIterator"), (0, .class_ 663), (0, u "java/util/TreeMap$PrivateEntryIterator")] 28

def k17c0 : Code := { maxStack := 2, maxLocals := 1, code := jdk_2729_method_1_code, exceptionTable := #[], attributes := #[] }
def k17m0 : Method := { name := "<init>", desc := "()V", sig := { parameters := [], returnType := none }, accessFlags := 1, code := some k17c0 }
/-- java/util/TreeMap -/
def k17 : Class := { plain "java/util/TreeMap" (some 12) with
  accessFlags := 33
  interfaces := #[15, 16, 2]
  cf := some (fileOf pool17 8 #[.nestMembers #[634, 636, 396, 391, 638, 59, 640, 245, 642, 250, 644, 388, 646, 648, 650, 652, 654, 656, 274, 269, 658, 660, 662, 222, 242, 237]] #[{ accessFlags := 1, nameIndex := 5, descriptorIndex := 6, attributes := #[] }] 33 2 #[231, 403, 405] #[{ accessFlags := 18, nameIndex := 18, descriptorIndex := 19, attributes := #[] }, { accessFlags := 130, nameIndex := 103, descriptorIndex := 104, attributes := #[] }, { accessFlags := 130, nameIndex := 11, descriptorIndex := 12, attributes := #[] }, { accessFlags := 130, nameIndex := 15, descriptorIndex := 12, attributes := #[] }, { accessFlags := 130, nameIndex := 34, descriptorIndex := 190, attributes := #[] }, { accessFlags := 130, nameIndex := 193, descriptorIndex := 194, attributes := #[] }, { accessFlags := 130, nameIndex := 197, descriptorIndex := 198, attributes := #[] }, { accessFlags := 26, nameIndex := 402, descriptorIndex := 63, attributes := #[] }, { accessFlags := 26, nameIndex := 413, descriptorIndex := 293, attributes := #[] }, { accessFlags := 26, nameIndex := 416, descriptorIndex := 293, attributes := #[] }, { accessFlags := 26, nameIndex := 418, descriptorIndex := 419, attributes := #[] }])
  fields := #[{ name := "comparator", type := (.object "java/util/Comparator"), accessFlags := 18, slot := 2, constantValue := 0 }, { name := "root", type := (.object "java/util/TreeMap$Entry"), accessFlags := 130, slot := 3, constantValue := 0 }, { name := "size", type := .int, accessFlags := 130, slot := 4, constantValue := 0 }, { name := "modCount", type := .int, accessFlags := 130, slot := 5, constantValue := 0 }, { name := "entrySet", type := (.object "java/util/TreeMap$EntrySet"), accessFlags := 130, slot := 6, constantValue := 0 }, { name := "navigableKeySet", type := (.object "java/util/TreeMap$KeySet"), accessFlags := 130, slot := 7, constantValue := 0 }, { name := "descendingMap", type := (.object "java/util/NavigableMap"), accessFlags := 130, slot := 8, constantValue := 0 }, { name := "UNBOUNDED", type := (.object "java/lang/Object"), accessFlags := 26, slot := 0, constantValue := 0 }, { name := "RED", type := .boolean, accessFlags := 26, slot := 1, constantValue := 0 }, { name := "BLACK", type := .boolean, accessFlags := 26, slot := 2, constantValue := 0 }, { name := "serialVersionUID", type := .long, accessFlags := 26, slot := 3, constantValue := 0 }]
  methods := #[k17m0]
  instanceTypes := #[(.object "java/util/Set"), (.object "java/util/Collection"), (.object "java/util/Comparator"), (.object "java/util/TreeMap$Entry"), .int, .int, (.object "java/util/TreeMap$EntrySet"), (.object "java/util/TreeMap$KeySet"), (.object "java/util/NavigableMap")]
  staticTypes := #[(.object "java/lang/Object"), .boolean, .boolean, .long]
  resolved := Array.replicate 692 none
  statics := none }

def pool18 : Array CpInfo := pool [(1, .methodref 2 3), (0, .class_ 4), (0, .nameAndType 5 6), (0, u "java/lang/Object"), (0, u "<init>"), (0, u "()V"), (0, .class_ 8), (0, u "java/lang/Record")] 13

def k18c0 : Code := { maxStack := 1, maxLocals := 1, code := jdk_30_method_1_code, exceptionTable := #[], attributes := #[] }
def k18m0 : Method := { name := "<init>", desc := "()V", sig := { parameters := [], returnType := none }, accessFlags := 4, code := some k18c0 }
/-- java/lang/Record -/
def k18 : Class := { plain "java/lang/Record" (some 0) with
  accessFlags := 1057
  interfaces := #[]
  cf := some (fileOf pool18 7 #[] #[{ accessFlags := 4, nameIndex := 5, descriptorIndex := 6, attributes := #[] }] 1057 2 #[] #[])
  fields := #[]
  methods := #[k18m0]
  instanceTypes := #[]
  staticTypes := #[]
  resolved := Array.replicate 22 none
  statics := none }

def pool19 : Array CpInfo := pool [(1, .methodref 2 3), (0, .class_ 4), (0, .nameAndType 5 6), (0, u "java/lang/Record"), (0, u "<init>"), (0, u "()V"), (0, .string 8), (0, u "id"), (0, .methodref 10 11), (0, .class_ 12), (0, .nameAndType 13 14), (0, u "java/util/Objects"), (0, u "requireNonNull"), (0, u "(Ljava/lang/Object;Ljava/lang/String;)Ljava/lang/Object;"), (0, .methodref 16 17), (0, .class_ 18), (0, .nameAndType 19 20), (0, u "com/example/causal_delivery/causaldelivery/Predecessor"), (0, u "checkDeadline"), (0, u "(Ljava/util/OptionalLong;)V"), (0, .fieldref 16 22), (0, .nameAndType 8 23), (0, u "Lcom/example/causal_delivery/causaldelivery/MessageId;"), (0, .fieldref 16 25), (0, .nameAndType 26 27), (0, u "deadline"), (0, u "Ljava/util/OptionalLong;"), (0, .string 26), (0, .methodref 30 31), (0, .class_ 32), (0, .nameAndType 33 34), (0, u "java/util/OptionalLong"), (0, u "isPresent"), (0, u "()Z"), (18, u "()Lcom/example/causal_delivery/causaldelivery/MessageId;"), (32, u "EARLIEST_FIRST"), (0, u "Ljava/util/Comparator;"), (3, u "BY_NAME"), (2, u "(Lcom/example/causal_delivery/causaldelivery/MessageId;Ljava/util/OptionalLong;)V")] 62

def k19c0 : Code := { maxStack := 2, maxLocals := 3, code := prog_36_method_1_code, exceptionTable := #[], attributes := #[] }
def k19m0 : Method := { name := "<init>", desc := "(Lcom/example/causal_delivery/causaldelivery/MessageId;Ljava/util/OptionalLong;)V", sig := { parameters := [(.object "com/example/causal_delivery/causaldelivery/MessageId"), (.object "java/util/OptionalLong")], returnType := none }, accessFlags := 1, code := some k19c0 }
def k19c1 : Code := { maxStack := 4, maxLocals := 1, code := prog_36_method_2_code, exceptionTable := #[], attributes := #[] }
def k19m1 : Method := { name := "checkDeadline", desc := "(Ljava/util/OptionalLong;)V", sig := { parameters := [(.object "java/util/OptionalLong")], returnType := none }, accessFlags := 8, code := some k19c1 }
def k19c2 : Code := { maxStack := 1, maxLocals := 1, code := prog_36_method_9_code, exceptionTable := #[], attributes := #[] }
def k19m2 : Method := { name := "id", desc := "()Lcom/example/causal_delivery/causaldelivery/MessageId;", sig := { parameters := [], returnType := some (.object "com/example/causal_delivery/causaldelivery/MessageId") }, accessFlags := 1, code := some k19c2 }
/-- com/example/causal_delivery/causaldelivery/Predecessor -/
def k19 : Class := { plain "com/example/causal_delivery/causaldelivery/Predecessor" (some 18) with
  accessFlags := 49
  interfaces := #[]
  cf := some (fileOf pool19 16 #[] #[{ accessFlags := 1, nameIndex := 5, descriptorIndex := 94, attributes := #[] }, { accessFlags := 8, nameIndex := 19, descriptorIndex := 20, attributes := #[] }, { accessFlags := 1, nameIndex := 8, descriptorIndex := 53, attributes := #[] }] 49 2 #[] #[{ accessFlags := 18, nameIndex := 8, descriptorIndex := 23, attributes := #[] }, { accessFlags := 18, nameIndex := 26, descriptorIndex := 27, attributes := #[] }, { accessFlags := 24, nameIndex := 86, descriptorIndex := 87, attributes := #[] }, { accessFlags := 24, nameIndex := 91, descriptorIndex := 87, attributes := #[] }])
  fields := #[{ name := "id", type := (.object "com/example/causal_delivery/causaldelivery/MessageId"), accessFlags := 18, slot := 0, constantValue := 0 }, { name := "deadline", type := (.object "java/util/OptionalLong"), accessFlags := 18, slot := 1, constantValue := 0 }, { name := "EARLIEST_FIRST", type := (.object "java/util/Comparator"), accessFlags := 24, slot := 0, constantValue := 0 }, { name := "BY_NAME", type := (.object "java/util/Comparator"), accessFlags := 24, slot := 1, constantValue := 0 }]
  methods := #[k19m0, k19m1, k19m2]
  instanceTypes := #[(.object "com/example/causal_delivery/causaldelivery/MessageId"), (.object "java/util/OptionalLong")]
  staticTypes := #[(.object "java/util/Comparator"), (.object "java/util/Comparator")]
  resolved := Array.replicate 157 none
  statics := none }

def pool20 : Array CpInfo := pool [(1, .methodref 2 3), (0, .class_ 4), (0, .nameAndType 5 6), (0, u "java/lang/Record"), (0, u "<init>"), (0, u "()V"), (0, .string 8), (0, u "origin"), (0, .methodref 10 11), (0, .class_ 12), (0, .nameAndType 13 14), (0, u "java/util/Objects"), (0, u "requireNonNull"), (0, u "(Ljava/lang/Object;Ljava/lang/String;)Ljava/lang/Object;"), (0, .string 16), (0, u "a message's origin"), (0, .methodref 18 19), (0, .class_ 20), (0, .nameAndType 21 22), (0, u "com/example/causal_delivery/causaldelivery/MemberIdentifier"), (0, u "checkNotEmpty"), (0, u "(Ljava/lang/String;Ljava/lang/String;)V"), (9, .fieldref 33 34), (0, .class_ 35), (0, .nameAndType 8 36), (0, u "com/example/causal_delivery/causaldelivery/MessageId"), (0, u "Ljava/lang/String;"), (0, .fieldref 33 38), (0, .nameAndType 39 40), (0, u "seq"), (0, u "J"), (29, .class_ 71), (0, u "java/lang/Comparable"), (0, u "(Ljava/lang/String;J)V"), (9, u "()J")] 34

def k20c0 : Code := { maxStack := 4, maxLocals := 4, code := prog_29_method_1_code, exceptionTable := #[], attributes := #[] }
def k20m0 : Method := { name := "<init>", desc := "(Ljava/lang/String;J)V", sig := { parameters := [(.object "java/lang/String"), .long], returnType := none }, accessFlags := 1, code := some k20c0 }
def k20c1 : Code := { maxStack := 2, maxLocals := 1, code := prog_29_method_8_code, exceptionTable := #[], attributes := #[] }
def k20m1 : Method := { name := "seq", desc := "()J", sig := { parameters := [], returnType := some .long }, accessFlags := 1, code := some k20c1 }
/-- com/example/causal_delivery/causaldelivery/MessageId -/
def k20 : Class := { plain "com/example/causal_delivery/causaldelivery/MessageId" (some 18) with
  accessFlags := 49
  interfaces := #[3]
  cf := some (fileOf pool20 33 #[] #[{ accessFlags := 1, nameIndex := 5, descriptorIndex := 72, attributes := #[] }, { accessFlags := 1, nameIndex := 39, descriptorIndex := 82, attributes := #[] }] 49 2 #[70] #[{ accessFlags := 18, nameIndex := 8, descriptorIndex := 36, attributes := #[] }, { accessFlags := 18, nameIndex := 39, descriptorIndex := 40, attributes := #[] }])
  fields := #[{ name := "origin", type := (.object "java/lang/String"), accessFlags := 18, slot := 0, constantValue := 0 }, { name := "seq", type := .long, accessFlags := 18, slot := 1, constantValue := 0 }]
  methods := #[k20m0, k20m1]
  instanceTypes := #[(.object "java/lang/String"), .long]
  staticTypes := #[]
  resolved := Array.replicate 117 none
  statics := none }

def pool21 : Array CpInfo := pool [(2, .class_ 4), (1, u "java/lang/Object"), (0, u "<init>"), (0, u "()V"), (35, .class_ 44), (1, u "java/util/Objects"), (0, u "requireNonNull"), (48, u "(Ljava/lang/Object;Ljava/lang/String;)Ljava/lang/Object;"), (10, .methodref 106 107), (0, .class_ 108), (0, .nameAndType 109 110), (0, u "jdk/internal/util/Preconditions"), (0, u "checkIndex"), (0, u "(IILjava/util/function/BiFunction;)I"), (60, u "(II)I")] 12

def k21m0 : Method := { name := "<init>", desc := "()V", sig := { parameters := [], returnType := none }, accessFlags := 2, code := none }
def k21c1 : Code := { maxStack := 3, maxLocals := 2, code := jdk_31_method_11_code, exceptionTable := #[], attributes := #[] }
def k21m1 : Method := { name := "requireNonNull", desc := "(Ljava/lang/Object;Ljava/lang/String;)Ljava/lang/Object;", sig := { parameters := [(.object "java/lang/Object"), (.object "java/lang/String")], returnType := some (.object "java/lang/Object") }, accessFlags := 9, code := some k21c1 }
def k21c2 : Code := { maxStack := 3, maxLocals := 2, code := jdk_31_method_17_code, exceptionTable := #[], attributes := #[] }
def k21m2 : Method := { name := "checkIndex", desc := "(II)I", sig := { parameters := [.int, .int], returnType := some .int }, accessFlags := 9, code := some k21c2 }
/-- java/util/Objects -/
def k21 : Class := { plain "java/util/Objects" (some 0) with
  accessFlags := 49
  interfaces := #[]
  cf := some (fileOf pool21 42 #[] #[{ accessFlags := 2, nameIndex := 5, descriptorIndex := 6, attributes := #[] }, { accessFlags := 9, nameIndex := 45, descriptorIndex := 94, attributes := #[] }, { accessFlags := 9, nameIndex := 109, descriptorIndex := 171, attributes := #[] }] 49 2 #[] #[])
  fields := #[]
  methods := #[k21m0, k21m1, k21m2]
  instanceTypes := #[]
  staticTypes := #[]
  resolved := Array.replicate 184 none
  statics := none }

def pool22 : Array CpInfo := pool [(2, .class_ 4), (1, u "java/lang/Object"), (0, u "<init>"), (0, u "()V"), (1, .class_ 10), (1, u "com/example/causal_delivery/causaldelivery/MemberIdentifier"), (7, u "()Z"), (4, .class_ 24), (0, u "java/lang/String"), (4, .methodref 23 30), (0, .nameAndType 31 18), (0, u "isEmpty"), (91, u "EMPTY"), (0, u "Ljava/lang/String;"), (1, u "NOT_WELL_FORMED"), (3, u "(Ljava/lang/String;Ljava/lang/String;)V"), (1, u "checkNotEmpty")] 21

def k22m0 : Method := { name := "<init>", desc := "()V", sig := { parameters := [], returnType := none }, accessFlags := 2, code := none }
def k22c1 : Code := { maxStack := 3, maxLocals := 2, code := prog_27_method_3_code, exceptionTable := #[], attributes := #[] }
def k22m1 : Method := { name := "checkNotEmpty", desc := "(Ljava/lang/String;Ljava/lang/String;)V", sig := { parameters := [(.object "java/lang/String"), (.object "java/lang/String")], returnType := none }, accessFlags := 8, code := some k22c1 }
/-- com/example/causal_delivery/causaldelivery/MemberIdentifier -/
def k22 : Class := { plain "com/example/causal_delivery/causaldelivery/MemberIdentifier" (some 0) with
  accessFlags := 49
  interfaces := #[]
  cf := some (fileOf pool22 8 #[] #[{ accessFlags := 2, nameIndex := 5, descriptorIndex := 6, attributes := #[] }, { accessFlags := 8, nameIndex := 132, descriptorIndex := 130, attributes := #[] }] 49 2 #[] #[{ accessFlags := 26, nameIndex := 123, descriptorIndex := 124, attributes := #[] }, { accessFlags := 26, nameIndex := 126, descriptorIndex := 124, attributes := #[] }])
  fields := #[{ name := "EMPTY", type := (.object "java/lang/String"), accessFlags := 26, slot := 0, constantValue := 0 }, { name := "NOT_WELL_FORMED", type := (.object "java/lang/String"), accessFlags := 26, slot := 1, constantValue := 0 }]
  methods := #[k22m0, k22m1]
  instanceTypes := #[]
  staticTypes := #[(.object "java/lang/String"), (.object "java/lang/String")]
  resolved := Array.replicate 154 none
  statics := none }

def pool23 : Array CpInfo := pool [(2, .class_ 4), (1, u "java/lang/Object"), (0, u "<init>"), (0, u "()V"), (0, .fieldref 8 9), (0, .class_ 10), (0, .nameAndType 11 12), (0, u "java/util/OptionalLong"), (0, u "isPresent"), (0, u "Z"), (2, u "value"), (0, u "J"), (0, .fieldref 8 18), (0, .nameAndType 19 20), (0, u "EMPTY"), (0, u "Ljava/util/OptionalLong;"), (28, u "empty"), (46, u "()Ljava/util/OptionalLong;"), (2, u "()Z")] 38

def k23m0 : Method := { name := "<init>", desc := "()V", sig := { parameters := [], returnType := none }, accessFlags := 2, code := none }
def k23c1 : Code := { maxStack := 1, maxLocals := 0, code := jdk_2650_method_2_code, exceptionTable := #[], attributes := #[] }
def k23m1 : Method := { name := "empty", desc := "()Ljava/util/OptionalLong;", sig := { parameters := [], returnType := some (.object "java/util/OptionalLong") }, accessFlags := 9, code := some k23c1 }
def k23c2 : Code := { maxStack := 1, maxLocals := 1, code := jdk_2650_method_6_code, exceptionTable := #[], attributes := #[] }
def k23m2 : Method := { name := "isPresent", desc := "()Z", sig := { parameters := [], returnType := some .boolean }, accessFlags := 1, code := some k23c2 }
/-- java/util/OptionalLong -/
def k23 : Class := { plain "java/util/OptionalLong" (some 0) with
  accessFlags := 49
  interfaces := #[]
  cf := some (fileOf pool23 8 #[] #[{ accessFlags := 2, nameIndex := 5, descriptorIndex := 6, attributes := #[] }, { accessFlags := 9, nameIndex := 49, descriptorIndex := 96, attributes := #[] }, { accessFlags := 1, nameIndex := 11, descriptorIndex := 99, attributes := #[] }] 49 2 #[] #[{ accessFlags := 26, nameIndex := 19, descriptorIndex := 20, attributes := #[] }, { accessFlags := 18, nameIndex := 11, descriptorIndex := 12, attributes := #[] }, { accessFlags := 18, nameIndex := 15, descriptorIndex := 16, attributes := #[] }])
  fields := #[{ name := "EMPTY", type := (.object "java/util/OptionalLong"), accessFlags := 26, slot := 0, constantValue := 0 }, { name := "isPresent", type := .boolean, accessFlags := 18, slot := 0, constantValue := 0 }, { name := "value", type := .long, accessFlags := 18, slot := 1, constantValue := 0 }]
  methods := #[k23m0, k23m1, k23m2]
  instanceTypes := #[.boolean, .long]
  staticTypes := #[(.object "java/util/OptionalLong")]
  resolved := Array.replicate 138 none
  statics := some 1 }

def pool24 : Array CpInfo := pool [(8, .class_ 10), (1, u "java/lang/Iterable"), (24, .class_ 36), (0, u "java/lang/Object")] 25

/-- java/lang/Iterable -/
def k24 : Class := { plain "java/lang/Iterable" (some 0) with
  accessFlags := 1537
  interfaces := #[]
  cf := some (fileOf pool24 8 #[] #[] 1537 35 #[] #[])
  fields := #[]
  methods := #[]
  instanceTypes := #[]
  staticTypes := #[]
  resolved := Array.replicate 62 none
  statics := none }

def pool25 : Array CpInfo := pool [(10, .class_ 12), (1, u "java/util/Collection"), (47, .class_ 61), (0, u "java/lang/Object"), (0, .class_ 63), (0, u "java/lang/Iterable")] 51

/-- java/util/Collection -/
def k25 : Class := { plain "java/util/Collection" (some 0) with
  accessFlags := 1537
  interfaces := #[24]
  cf := some (fileOf pool25 10 #[] #[] 1537 60 #[62] #[])
  fields := #[]
  methods := #[]
  instanceTypes := #[]
  staticTypes := #[]
  resolved := Array.replicate 115 none
  statics := none }

def pool26 : Array CpInfo := pool [(1, .methodref 2 3), (0, .class_ 4), (0, .nameAndType 5 6), (0, u "java/lang/Object"), (0, u "<init>"), (0, u "()V"), (1, .class_ 10), (1, u "java/util/AbstractCollection"), (66, .class_ 78), (0, u "java/util/Collection")] 81

def k26c0 : Code := { maxStack := 1, maxLocals := 1, code := jdk_22_method_1_code, exceptionTable := #[], attributes := #[] }
def k26m0 : Method := { name := "<init>", desc := "()V", sig := { parameters := [], returnType := none }, accessFlags := 4, code := some k26c0 }
/-- java/util/AbstractCollection -/
def k26 : Class := { plain "java/util/AbstractCollection" (some 0) with
  accessFlags := 1057
  interfaces := #[25]
  cf := some (fileOf pool26 8 #[] #[{ accessFlags := 4, nameIndex := 5, descriptorIndex := 6, attributes := #[] }] 1057 2 #[77] #[])
  fields := #[]
  methods := #[k26m0]
  instanceTypes := #[]
  staticTypes := #[]
  resolved := Array.replicate 160 none
  statics := none }

def pool27 : Array CpInfo := pool [(8, .class_ 10), (1, u "java/util/SequencedCollection"), (15, .class_ 27), (0, u "java/lang/Object"), (0, .class_ 29), (0, u "java/util/Collection")] 27

/-- java/util/SequencedCollection -/
def k27 : Class := { plain "java/util/SequencedCollection" (some 0) with
  accessFlags := 1537
  interfaces := #[25]
  cf := some (fileOf pool27 8 #[] #[] 1537 26 #[28] #[])
  fields := #[]
  methods := #[]
  instanceTypes := #[]
  staticTypes := #[]
  resolved := Array.replicate 57 none
  statics := none }

def pool28 : Array CpInfo := pool [(8, .class_ 10), (1, u "java/util/List"), (7, u "()Z"), (11, u "set"), (29, u "add"), (3, u "(Ljava/lang/Object;)Z"), (2, u "isEmpty"), (7, u "get"), (0, u "(I)Ljava/lang/Object;"), (2, u "size"), (0, u "()I"), (2, u "remove"), (19, .class_ 104), (0, u "java/lang/Object"), (15, .class_ 121), (0, u "java/util/SequencedCollection"), (51, u "(ILjava/lang/Object;)Ljava/lang/Object;")] 77

def k28m0 : Method := { name := "size", desc := "()I", sig := { parameters := [], returnType := some .int }, accessFlags := 1025, code := none }
def k28m1 : Method := { name := "isEmpty", desc := "()Z", sig := { parameters := [], returnType := some .boolean }, accessFlags := 1025, code := none }
def k28m2 : Method := { name := "add", desc := "(Ljava/lang/Object;)Z", sig := { parameters := [(.object "java/lang/Object")], returnType := some .boolean }, accessFlags := 1025, code := none }
def k28m3 : Method := { name := "get", desc := "(I)Ljava/lang/Object;", sig := { parameters := [.int], returnType := some (.object "java/lang/Object") }, accessFlags := 1025, code := none }
def k28m4 : Method := { name := "set", desc := "(ILjava/lang/Object;)Ljava/lang/Object;", sig := { parameters := [.int, (.object "java/lang/Object")], returnType := some (.object "java/lang/Object") }, accessFlags := 1025, code := none }
def k28m5 : Method := { name := "remove", desc := "(I)Ljava/lang/Object;", sig := { parameters := [.int], returnType := some (.object "java/lang/Object") }, accessFlags := 1025, code := none }
/-- java/util/List -/
def k28 : Class := { plain "java/util/List" (some 0) with
  accessFlags := 1537
  interfaces := #[27]
  cf := some (fileOf pool28 8 #[] #[{ accessFlags := 1025, nameIndex := 79, descriptorIndex := 80, attributes := #[] }, { accessFlags := 1025, nameIndex := 67, descriptorIndex := 18, attributes := #[] }, { accessFlags := 1025, nameIndex := 60, descriptorIndex := 64, attributes := #[] }, { accessFlags := 1025, nameIndex := 75, descriptorIndex := 76, attributes := #[] }, { accessFlags := 1025, nameIndex := 30, descriptorIndex := 173, attributes := #[] }, { accessFlags := 1025, nameIndex := 83, descriptorIndex := 76, attributes := #[] }] 1537 103 #[120] #[])
  fields := #[]
  methods := #[k28m0, k28m1, k28m2, k28m3, k28m4, k28m5]
  instanceTypes := #[]
  staticTypes := #[]
  resolved := Array.replicate 251 none
  statics := none }

def pool29 : Array CpInfo := pool [(1, .methodref 2 3), (0, .class_ 4), (0, .nameAndType 5 6), (0, u "java/util/AbstractCollection"), (0, u "<init>"), (0, u "()V"), (0, .fieldref 8 9), (0, .class_ 10), (0, .nameAndType 11 12), (0, u "java/util/AbstractList"), (0, u "modCount"), (0, u "I"), (64, .class_ 78), (0, u "java/util/AbstractList$Itr"), (3, .class_ 83), (0, u "java/util/AbstractList$ListItr"), (9, .class_ 94), (0, u "java/util/AbstractList$RandomAccessSubList"), (3, .class_ 99), (0, u "java/util/AbstractList$SubList"), (33, .class_ 134), (0, u "java/util/List"), (73, .class_ 209), (0, u "java/util/AbstractList$SubList$1"), (0, .class_ 211), (0, u "java/util/AbstractList$RandomAccessSpliterator")] 6

def k29c0 : Code := { maxStack := 2, maxLocals := 1, code := jdk_39_method_1_code, exceptionTable := #[], attributes := #[] }
def k29m0 : Method := { name := "<init>", desc := "()V", sig := { parameters := [], returnType := none }, accessFlags := 4, code := some k29c0 }
/-- java/util/AbstractList -/
def k29 : Class := { plain "java/util/AbstractList" (some 26) with
  accessFlags := 1057
  interfaces := #[28]
  cf := some (fileOf pool29 8 #[.nestMembers #[93, 98, 208, 210, 82, 77]] #[{ accessFlags := 4, nameIndex := 5, descriptorIndex := 6, attributes := #[] }] 1057 2 #[133] #[{ accessFlags := 132, nameIndex := 11, descriptorIndex := 12, attributes := #[] }])
  fields := #[{ name := "modCount", type := .int, accessFlags := 132, slot := 0, constantValue := 0 }]
  methods := #[k29m0]
  instanceTypes := #[.int]
  staticTypes := #[]
  resolved := Array.replicate 218 none
  statics := none }

def pool30 : Array CpInfo := pool [(1, .class_ 2), (0, u "java/util/RandomAccess"), (0, .class_ 4), (0, u "java/lang/Object")] 2

/-- java/util/RandomAccess -/
def k30 : Class := { plain "java/util/RandomAccess" (some 0) with
  accessFlags := 1537
  interfaces := #[]
  cf := some (fileOf pool30 1 #[] #[] 1537 3 #[] #[])
  fields := #[]
  methods := #[]
  instanceTypes := #[]
  staticTypes := #[]
  resolved := Array.replicate 7 none
  statics := none }

def pool31 : Array CpInfo := pool [(1, .methodref 2 3), (0, .class_ 4), (0, .nameAndType 5 6), (0, u "java/util/AbstractList"), (0, u "<init>"), (0, u "()V"), (0, .class_ 8), (0, u "java/lang/Object"), (0, .fieldref 10 11), (0, .class_ 12), (0, .nameAndType 13 14), (0, u "java/util/ArrayList"), (0, u "elementData"), (0, u "[Ljava/lang/Object;"), (2, u "EMPTY_ELEMENTDATA"), (23, u "DEFAULTCAPACITY_EMPTY_ELEMENTDATA"), (6, .fieldref 10 49), (0, .nameAndType 50 51), (0, u "size"), (0, u "I"), (11, .fieldref 10 64), (0, .nameAndType 65 51), (0, u "modCount"), (18, u "(II)I"), (11, u "(Ljava/lang/Object;)Z"), (21, .methodref 119 120), (0, .class_ 121), (0, .nameAndType 122 84), (0, u "java/util/Objects"), (0, u "checkIndex"), (0, .methodref 10 124), (0, .nameAndType 13 125), (0, u "(I)Ljava/lang/Object;"), (5, .methodref 10 132), (0, .nameAndType 133 134), (0, u "add"), (0, u "(Ljava/lang/Object;[Ljava/lang/Object;I)V"), (3, u "(I)V"), (5, .methodref 10 145), (0, .nameAndType 146 147), (0, u "fastRemove"), (0, u "([Ljava/lang/Object;I)V"), (0, .class_ 149), (0, u "java/util/List"), (23, u "()Z"), (12, u "()I"), (75, .class_ 263), (0, u "java/util/ArrayList$ListItr"), (3, .class_ 268), (0, u "java/util/ArrayList$Itr"), (7, .class_ 277), (0, u "java/util/ArrayList$SubList"), (12, .class_ 291), (0, u "java/util/ArrayList$ArrayListSpliterator"), (37, .class_ 330), (0, u "java/util/RandomAccess"), (0, .class_ 332), (0, u "java/lang/Cloneable"), (0, .class_ 334), (0, u "java/io/Serializable"), (0, u "serialVersionUID"), (0, u "J"), (3, u "DEFAULT_CAPACITY"), (22, u "isEmpty"), (17, u "get"), (4, u "set"), (0, u "(ILjava/lang/Object;)Ljava/lang/Object;"), (11, u "remove"), (100, .class_ 501), (0, u "java/util/ArrayList$SubList$2"), (0, .class_ 503), (0, u "java/util/ArrayList$SubList$1")] 5

def k31c0 : Code := { maxStack := 4, maxLocals := 2, code := jdk_38_method_1_code, exceptionTable := #[], attributes := #[] }
def k31m0 : Method := { name := "<init>", desc := "(I)V", sig := { parameters := [.int], returnType := none }, accessFlags := 1, code := some k31c0 }
def k31m1 : Method := { name := "<init>", desc := "()V", sig := { parameters := [], returnType := none }, accessFlags := 1, code := none }
def k31c2 : Code := { maxStack := 1, maxLocals := 1, code := jdk_38_method_8_code, exceptionTable := #[], attributes := #[] }
def k31m2 : Method := { name := "size", desc := "()I", sig := { parameters := [], returnType := some .int }, accessFlags := 1, code := some k31c2 }
def k31c3 : Code := { maxStack := 1, maxLocals := 1, code := jdk_38_method_9_code, exceptionTable := #[], attributes := #[] }
def k31m3 : Method := { name := "isEmpty", desc := "()Z", sig := { parameters := [], returnType := some .boolean }, accessFlags := 1, code := some k31c3 }
def k31c4 : Code := { maxStack := 2, maxLocals := 2, code := jdk_38_method_18_code, exceptionTable := #[], attributes := #[] }
def k31m4 : Method := { name := "elementData", desc := "(I)Ljava/lang/Object;", sig := { parameters := [.int], returnType := some (.object "java/lang/Object") }, accessFlags := 0, code := some k31c4 }
def k31c5 : Code := { maxStack := 2, maxLocals := 2, code := jdk_38_method_20_code, exceptionTable := #[], attributes := #[] }
def k31m5 : Method := { name := "get", desc := "(I)Ljava/lang/Object;", sig := { parameters := [.int], returnType := some (.object "java/lang/Object") }, accessFlags := 1, code := some k31c5 }
def k31c6 : Code := { maxStack := 3, maxLocals := 4, code := jdk_38_method_23_code, exceptionTable := #[], attributes := #[] }
def k31m6 : Method := { name := "set", desc := "(ILjava/lang/Object;)Ljava/lang/Object;", sig := { parameters := [.int, (.object "java/lang/Object")], returnType := some (.object "java/lang/Object") }, accessFlags := 1, code := some k31c6 }
def k31c7 : Code := { maxStack := 3, maxLocals := 4, code := jdk_38_method_24_code, exceptionTable := #[], attributes := #[] }
def k31m7 : Method := { name := "add", desc := "(Ljava/lang/Object;[Ljava/lang/Object;I)V", sig := { parameters := [(.object "java/lang/Object"), (.array (.object "java/lang/Object")), .int], returnType := none }, accessFlags := 2, code := some k31c7 }
def k31c8 : Code := { maxStack := 4, maxLocals := 2, code := jdk_38_method_25_code, exceptionTable := #[], attributes := #[] }
def k31m8 : Method := { name := "add", desc := "(Ljava/lang/Object;)Z", sig := { parameters := [(.object "java/lang/Object")], returnType := some .boolean }, accessFlags := 1, code := some k31c8 }
def k31c9 : Code := { maxStack := 3, maxLocals := 4, code := jdk_38_method_29_code, exceptionTable := #[], attributes := #[] }
def k31m9 : Method := { name := "remove", desc := "(I)Ljava/lang/Object;", sig := { parameters := [.int], returnType := some (.object "java/lang/Object") }, accessFlags := 1, code := some k31c9 }
def k31c10 : Code := { maxStack := 6, maxLocals := 4, code := jdk_38_method_39_code, exceptionTable := #[], attributes := #[] }
def k31m10 : Method := { name := "fastRemove", desc := "([Ljava/lang/Object;I)V", sig := { parameters := [(.array (.object "java/lang/Object")), .int], returnType := none }, accessFlags := 2, code := some k31c10 }
/-- java/util/ArrayList -/
def k31 : Class := { plain "java/util/ArrayList" (some 29) with
  accessFlags := 33
  interfaces := #[28, 30, 16, 2]
  cf := some (fileOf pool31 10 #[.nestMembers #[290, 276, 500, 502, 262, 267]] #[{ accessFlags := 1, nameIndex := 5, descriptorIndex := 138, attributes := #[] }, { accessFlags := 1, nameIndex := 5, descriptorIndex := 6, attributes := #[] }, { accessFlags := 1, nameIndex := 50, descriptorIndex := 186, attributes := #[] }, { accessFlags := 1, nameIndex := 363, descriptorIndex := 173, attributes := #[] }, { accessFlags := 0, nameIndex := 13, descriptorIndex := 125, attributes := #[] }, { accessFlags := 1, nameIndex := 381, descriptorIndex := 125, attributes := #[] }, { accessFlags := 1, nameIndex := 386, descriptorIndex := 387, attributes := #[] }, { accessFlags := 2, nameIndex := 133, descriptorIndex := 134, attributes := #[] }, { accessFlags := 1, nameIndex := 133, descriptorIndex := 96, attributes := #[] }, { accessFlags := 1, nameIndex := 399, descriptorIndex := 125, attributes := #[] }, { accessFlags := 2, nameIndex := 146, descriptorIndex := 147, attributes := #[] }] 33 2 #[148, 329, 331, 333] #[{ accessFlags := 26, nameIndex := 335, descriptorIndex := 336, attributes := #[] }, { accessFlags := 26, nameIndex := 340, descriptorIndex := 51, attributes := #[] }, { accessFlags := 26, nameIndex := 17, descriptorIndex := 14, attributes := #[] }, { accessFlags := 26, nameIndex := 41, descriptorIndex := 14, attributes := #[] }, { accessFlags := 128, nameIndex := 13, descriptorIndex := 14, attributes := #[] }, { accessFlags := 2, nameIndex := 50, descriptorIndex := 51, attributes := #[] }])
  fields := #[{ name := "serialVersionUID", type := .long, accessFlags := 26, slot := 0, constantValue := 0 }, { name := "DEFAULT_CAPACITY", type := .int, accessFlags := 26, slot := 1, constantValue := 0 }, { name := "EMPTY_ELEMENTDATA", type := (.array (.object "java/lang/Object")), accessFlags := 26, slot := 2, constantValue := 0 }, { name := "DEFAULTCAPACITY_EMPTY_ELEMENTDATA", type := (.array (.object "java/lang/Object")), accessFlags := 26, slot := 3, constantValue := 0 }, { name := "elementData", type := (.array (.object "java/lang/Object")), accessFlags := 128, slot := 1, constantValue := 0 }, { name := "size", type := .int, accessFlags := 2, slot := 2, constantValue := 0 }]
  methods := #[k31m0, k31m1, k31m2, k31m3, k31m4, k31m5, k31m6, k31m7, k31m8, k31m9, k31m10]
  instanceTypes := #[.int, (.array (.object "java/lang/Object")), .int]
  staticTypes := #[.long, .int, (.array (.object "java/lang/Object")), (.array (.object "java/lang/Object"))]
  resolved := Array.replicate 509 none
  statics := none }

def pool32 : Array CpInfo := pool [(2, .class_ 4), (1, u "java/lang/Object"), (0, u "<init>"), (0, u "()V"), (17, .class_ 26), (1, u "jdk/internal/util/Preconditions"), (6, u "checkIndex"), (21, .class_ 56), (0, u "jdk/internal/util/Preconditions$4"), (57, .class_ 115), (0, u "jdk/internal/util/Preconditions$1"), (7, u "SIOOBE_FORMATTER"), (0, u "Ljava/util/function/BiFunction;"), (0, .class_ 126), (0, u "jdk/internal/util/Preconditions$2"), (3, u "AIOOBE_FORMATTER"), (0, .class_ 132), (0, u "jdk/internal/util/Preconditions$3"), (3, u "IOOBE_FORMATTER"), (41, u "(IILjava/util/function/BiFunction;)I")] 15

def k32m0 : Method := { name := "<init>", desc := "()V", sig := { parameters := [], returnType := none }, accessFlags := 1, code := none }
def k32c1 : Code := { maxStack := 3, maxLocals := 3, code := jdk_41_method_11_code, exceptionTable := #[], attributes := #[] }
def k32m1 : Method := { name := "checkIndex", desc := "(IILjava/util/function/BiFunction;)I", sig := { parameters := [.int, .int, (.object "java/util/function/BiFunction")], returnType := some .int }, accessFlags := 9, code := some k32c1 }
/-- jdk/internal/util/Preconditions -/
def k32 : Class := { plain "jdk/internal/util/Preconditions" (some 0) with
  accessFlags := 33
  interfaces := #[]
  cf := some (fileOf pool32 24 #[.nestMembers #[55, 131, 125, 114]] #[{ accessFlags := 1, nameIndex := 5, descriptorIndex := 6, attributes := #[] }, { accessFlags := 9, nameIndex := 33, descriptorIndex := 178, attributes := #[] }] 33 2 #[] #[{ accessFlags := 25, nameIndex := 123, descriptorIndex := 124, attributes := #[] }, { accessFlags := 25, nameIndex := 130, descriptorIndex := 124, attributes := #[] }, { accessFlags := 25, nameIndex := 136, descriptorIndex := 124, attributes := #[] }])
  fields := #[{ name := "SIOOBE_FORMATTER", type := (.object "java/util/function/BiFunction"), accessFlags := 25, slot := 0, constantValue := 0 }, { name := "AIOOBE_FORMATTER", type := (.object "java/util/function/BiFunction"), accessFlags := 25, slot := 1, constantValue := 0 }, { name := "IOOBE_FORMATTER", type := (.object "java/util/function/BiFunction"), accessFlags := 25, slot := 2, constantValue := 0 }]
  methods := #[k32m0, k32m1]
  instanceTypes := #[]
  staticTypes := #[(.object "java/util/function/BiFunction"), (.object "java/util/function/BiFunction"), (.object "java/util/function/BiFunction")]
  resolved := Array.replicate 194 none
  statics := some 2 }

def pool33 : Array CpInfo := pool [(9, u "<init>"), (6, .class_ 18), (1, u "java/lang/Object"), (0, u "()V"), (1, .class_ 23), (1, u "jdk/internal/util/ArraysSupport"), (0, u "LOG2_ARRAY_LONG_INDEX_SCALE"), (0, u "I"), (2, u "U"), (0, u "Ljdk/internal/misc/Unsafe;"), (8, u "BIG_ENDIAN"), (0, u "Z"), (8, u "LOG2_BYTE_BIT_SIZE"), (4, u "LOG2_ARRAY_INT_INDEX_SCALE"), (54, u "JLA"), (0, u "Ljdk/internal/access/JavaLangAccess;"), (11, u "LOG2_ARRAY_BOOLEAN_INDEX_SCALE"), (9, u "LOG2_ARRAY_BYTE_INDEX_SCALE"), (5, u "LOG2_ARRAY_CHAR_INDEX_SCALE"), (5, u "LOG2_ARRAY_SHORT_INDEX_SCALE"), (18, u "LOG2_ARRAY_FLOAT_INDEX_SCALE"), (24, u "LOG2_ARRAY_DOUBLE_INDEX_SCALE"), (89, u "T_BOOLEAN"), (2, u "T_CHAR"), (1, u "T_FLOAT"), (1, u "T_DOUBLE"), (1, u "T_BYTE"), (1, u "T_SHORT"), (1, u "T_INT"), (1, u "T_LONG"), (1, u "SOFT_MAX_ARRAY_LENGTH")] 83

def k33m0 : Method := { name := "<init>", desc := "()V", sig := { parameters := [], returnType := none }, accessFlags := 2, code := none }
/-- jdk/internal/util/ArraysSupport -/
def k33 : Class := { plain "jdk/internal/util/ArraysSupport" (some 0) with
  accessFlags := 33
  interfaces := #[]
  cf := some (fileOf pool33 21 #[] #[{ accessFlags := 2, nameIndex := 9, descriptorIndex := 19, attributes := #[] }] 33 16 #[] #[{ accessFlags := 24, nameIndex := 28, descriptorIndex := 29, attributes := #[] }, { accessFlags := 26, nameIndex := 38, descriptorIndex := 39, attributes := #[] }, { accessFlags := 25, nameIndex := 121, descriptorIndex := 25, attributes := #[] }, { accessFlags := 25, nameIndex := 131, descriptorIndex := 25, attributes := #[] }, { accessFlags := 25, nameIndex := 137, descriptorIndex := 25, attributes := #[] }, { accessFlags := 25, nameIndex := 143, descriptorIndex := 25, attributes := #[] }, { accessFlags := 25, nameIndex := 53, descriptorIndex := 25, attributes := #[] }, { accessFlags := 25, nameIndex := 24, descriptorIndex := 25, attributes := #[] }, { accessFlags := 25, nameIndex := 162, descriptorIndex := 25, attributes := #[] }, { accessFlags := 25, nameIndex := 187, descriptorIndex := 25, attributes := #[] }, { accessFlags := 26, nameIndex := 48, descriptorIndex := 25, attributes := #[] }, { accessFlags := 25, nameIndex := 277, descriptorIndex := 25, attributes := #[] }, { accessFlags := 25, nameIndex := 280, descriptorIndex := 25, attributes := #[] }, { accessFlags := 25, nameIndex := 282, descriptorIndex := 25, attributes := #[] }, { accessFlags := 25, nameIndex := 284, descriptorIndex := 25, attributes := #[] }, { accessFlags := 25, nameIndex := 286, descriptorIndex := 25, attributes := #[] }, { accessFlags := 25, nameIndex := 288, descriptorIndex := 25, attributes := #[] }, { accessFlags := 25, nameIndex := 290, descriptorIndex := 25, attributes := #[] }, { accessFlags := 25, nameIndex := 292, descriptorIndex := 25, attributes := #[] }, { accessFlags := 26, nameIndex := 108, descriptorIndex := 109, attributes := #[] }, { accessFlags := 25, nameIndex := 294, descriptorIndex := 25, attributes := #[] }])
  fields := #[{ name := "U", type := (.object "jdk/internal/misc/Unsafe"), accessFlags := 24, slot := 0, constantValue := 0 }, { name := "BIG_ENDIAN", type := .boolean, accessFlags := 26, slot := 1, constantValue := 0 }, { name := "LOG2_ARRAY_BOOLEAN_INDEX_SCALE", type := .int, accessFlags := 25, slot := 2, constantValue := 0 }, { name := "LOG2_ARRAY_BYTE_INDEX_SCALE", type := .int, accessFlags := 25, slot := 3, constantValue := 0 }, { name := "LOG2_ARRAY_CHAR_INDEX_SCALE", type := .int, accessFlags := 25, slot := 4, constantValue := 0 }, { name := "LOG2_ARRAY_SHORT_INDEX_SCALE", type := .int, accessFlags := 25, slot := 5, constantValue := 0 }, { name := "LOG2_ARRAY_INT_INDEX_SCALE", type := .int, accessFlags := 25, slot := 6, constantValue := 0 }, { name := "LOG2_ARRAY_LONG_INDEX_SCALE", type := .int, accessFlags := 25, slot := 7, constantValue := 0 }, { name := "LOG2_ARRAY_FLOAT_INDEX_SCALE", type := .int, accessFlags := 25, slot := 8, constantValue := 0 }, { name := "LOG2_ARRAY_DOUBLE_INDEX_SCALE", type := .int, accessFlags := 25, slot := 9, constantValue := 0 }, { name := "LOG2_BYTE_BIT_SIZE", type := .int, accessFlags := 26, slot := 10, constantValue := 0 }, { name := "T_BOOLEAN", type := .int, accessFlags := 25, slot := 11, constantValue := 0 }, { name := "T_CHAR", type := .int, accessFlags := 25, slot := 12, constantValue := 0 }, { name := "T_FLOAT", type := .int, accessFlags := 25, slot := 13, constantValue := 0 }, { name := "T_DOUBLE", type := .int, accessFlags := 25, slot := 14, constantValue := 0 }, { name := "T_BYTE", type := .int, accessFlags := 25, slot := 15, constantValue := 0 }, { name := "T_SHORT", type := .int, accessFlags := 25, slot := 16, constantValue := 0 }, { name := "T_INT", type := .int, accessFlags := 25, slot := 17, constantValue := 0 }, { name := "T_LONG", type := .int, accessFlags := 25, slot := 18, constantValue := 0 }, { name := "JLA", type := (.object "jdk/internal/access/JavaLangAccess"), accessFlags := 26, slot := 19, constantValue := 0 }, { name := "SOFT_MAX_ARRAY_LENGTH", type := .int, accessFlags := 25, slot := 20, constantValue := 0 }]
  methods := #[k33m0]
  instanceTypes := #[]
  staticTypes := #[(.object "jdk/internal/misc/Unsafe"), .boolean, .int, .int, .int, .int, .int, .int, .int, .int, .int, .int, .int, .int, .int, .int, .int, .int, .int, (.object "jdk/internal/access/JavaLangAccess"), .int]
  resolved := Array.replicate 378 none
  statics := none }

/-- the primitive byte -/
def k34 : Class := { plain "byte" none with kind := .primitive 'B', accessFlags := 0x411 }
/-- [B -/
def k35 : Class := { plain "[B" (some 0) with kind := .array 34 .byte, interfaces := #[16, 2], accessFlags := 1041 }

/-- the primitive int -/
def k36 : Class := { plain "int" none with kind := .primitive 'I', accessFlags := 0x411 }
/-- [I -/
def k37 : Class := { plain "[I" (some 0) with kind := .array 36 .int, interfaces := #[16, 2], accessFlags := 1041 }

/-- [Ljava/lang/Object; -/
def k38 : Class := { plain "[Ljava/lang/Object;" (some 0) with kind := .array 0 (.object "java/lang/Object"), interfaces := #[16, 2], accessFlags := 1041 }

def heap : Heap := #[{ cls := 7, slots := #[.long 0, .int 1, .null, .int 0, .null, .int 0, .int 0], vm := .statics 7 },
  { cls := 23, slots := #[.ref 3], vm := .statics 23 },
  { cls := 32, slots := #[.null, .null, .null], vm := .statics 32 },
  { cls := 23, slots := #[.int 0, .long 0], vm := .none }]
def classes : Array Class := #[k0, k1, k2, k3, k4, k5, k6, k7, k8, k9, k10, k11, k12, k13, k14, k15, k16, k17, k18, k19, k20, k21, k22, k23, k24, k25, k26, k27, k28, k29, k30, k31, k32, k33, k34, k35, k36, k37, k38]
def interned : List (Array UInt16 × Addr) := []
def slotsUsed : Nat := 13
def theMethod : MethodId := ⟨1, 1⟩
def args0 : Array Value := #[.long 5, .long 5, .int 5, .int 5, .int 5]
def aboutOver (below : List Frame) : State where
  vm := { classes := classes, interned := interned.toArray }
  heap := heap
  slotsUsed := slotsUsed
  threads := #[{ frames := .invoking theMethod args0 :: below }]
def below0 : List Frame := [.native { method := ⟨0, 0⟩, args := #[] }]
def about1 : State := aboutOver below0
def p0 : Program := .bare "" "" ""
def e0 : Env := launch0.env 0 0 0
theorem w_frames : about1.frames = Frame.invoking theMethod args0 :: below0 := rfl
set_option maxRecDepth 65536 in
theorem w_args : argsFit about1.vm theMethod args0 = true := by decide +kernel
set_option maxRecDepth 65536 in
theorem w_heap : heapFits about1 = true := by decide +kernel
set_option maxRecDepth 65536 in
theorem w_runnable : about1.curStatus? = some .runnable := by decide +kernel
set_option maxRecDepth 65536 in
theorem w_alone : about1.alone = true := by decide +kernel
set_option maxRecDepth 65536 in
theorem w_named : about1.methodNamed? x = some theMethod := by decide +kernel
set_option maxRecDepth 65536 in
theorem w_hears : about1.hears theMethod below0 = true := by decide +kernel
set_option maxRecDepth 65536 in
theorem w_ripe : about1.ripe theMethod args0 below0 = true := by decide +kernel
theorem w_running : about1.status = .running := rfl
set_option maxRecDepth 65536 in
theorem w_room : about1.hasRoom e0.platform room_1 = true :=
  launch0.hasRoom_least _ room_1 (by decide +kernel) (by decide +kernel) (by decide +kernel) (by decide +kernel) (by decide +kernel) (by decide +kernel)
theorem allAtoms_all (ts : List Jvm.Cond) (a : Array Jvm.Value) (st : Jvm.State) : (allAtoms ts).before a st = ts.all (fun c => c.before a st) := by
  induction ts with
  | nil => rfl
  | cons c t ih =>
    show (Jvm.Cond.and c (allAtoms t)).before a st = _
    rw [Jvm.Cond.before_and, ih, List.all_cons]
def words1 : List Jvm.Cond := Jvm.Cond.code x code maxLocals ret :: tables_1
/-- a 'code' word, met by the world's own term for the bytes: nothing is compared byte by byte -/
theorem code_word {y : MethodName} {bytes : ByteArray} {mx : Nat} {rt : Option FieldType} {a : Array Value} {s : State} {m : MethodId} {meth : Method} {c : Code} (h1 : s.methodNamed? y = some m) (h2 : s.vm.method? m = some meth) (h3 : meth.code = some c) (h4 : c.code = bytes)
    (h5 : (c.maxLocals == mx && c.exceptionTable.isEmpty && decide (c.maxStack ≤ mostOperands) && decide (meth.sig.returnType = rt) && !meth.locks && decide (parseMethodDescriptor y.desc = some meth.sig)) = true) : (Jvm.Cond.code y bytes mx rt).before a s = true := by
  simp only [Bool.and_eq_true, beq_iff_eq, Bool.not_eq_true', decide_eq_true_eq] at h5
  obtain ⟨⟨⟨⟨⟨g1, g2⟩, g3⟩, g4⟩, g5⟩, g6⟩ := h5
  simp [Cond.before, Cond.holds, Cond.value, h1, h2, h3, h4, g1, g2, g3, g4, g5, g6]
def isCode : Jvm.Cond → Bool
  | .code _ _ _ _ => true
  | _ => false
theorem all_split {L : List Jvm.Cond} {P : Jvm.Cond → Bool} (h1 : L.all (fun c => isCode c || P c) = true) (h2 : ∀ c ∈ L.filter isCode, P c = true) : L.all P = true := by
  refine List.all_eq_true.mpr fun c hc => ?_
  have h := List.all_eq_true.mp h1 c hc
  rcases Bool.eq_false_or_eq_true (isCode c) with hi | hi
  · exact h2 c (List.mem_filter.mpr ⟨hc, hi⟩)
  · simpa [hi] using h
set_option maxRecDepth 65536 in
theorem w_c0 : (Jvm.Cond.code x code maxLocals ret).before args0 about1 = true := code_word (m := ⟨1, 1⟩) (meth := k1m1) (c := k1c1) (by decide +kernel) rfl rfl rfl (by decide +kernel)
set_option maxRecDepth 65536 in
theorem w_c1 : (Jvm.Cond.code ({ cls := "java/lang/String", name := "valueOf", desc := "(C)Ljava/lang/String;" } : Jvm.MethodName) jdk_42_method_139_code (1 : Nat) (Option.some (Jvm.ClassFile.FieldType.object "java/lang/String"))).before args0 about1 = true := code_word (m := ⟨7, 2⟩) (meth := k7m2) (c := k7c2) (by decide +kernel) rfl rfl rfl (by decide +kernel)
set_option maxRecDepth 65536 in
theorem w_c2 : (Jvm.Cond.code ({ cls := "java/lang/StringLatin1", name := "canEncode", desc := "(C)Z" } : Jvm.MethodName) jdk_43_method_3_code (1 : Nat) (Option.some Jvm.ClassFile.FieldType.boolean)).before args0 about1 = true := code_word (m := ⟨8, 1⟩) (meth := k8m1) (c := k8c1) (by decide +kernel) rfl rfl rfl (by decide +kernel)
set_option maxRecDepth 65536 in
theorem w_c3 : (Jvm.Cond.code ({ cls := "java/lang/StringLatin1", name := "toBytes", desc := "(C)[B" } : Jvm.MethodName) jdk_43_method_46_code (1 : Nat) (Option.some (Jvm.ClassFile.FieldType.array Jvm.ClassFile.FieldType.byte))).before args0 about1 = true := code_word (m := ⟨8, 2⟩) (meth := k8m2) (c := k8c2) (by decide +kernel) rfl rfl rfl (by decide +kernel)
set_option maxRecDepth 65536 in
theorem w_c4 : (Jvm.Cond.code ({ cls := "java/lang/String", name := "<init>", desc := "([BB)V" } : Jvm.MethodName) jdk_42_method_151_code (3 : Nat) (Option.none : Option Jvm.ClassFile.FieldType)).before args0 about1 = true := code_word (m := ⟨7, 3⟩) (meth := k7m3) (c := k7c3) (by decide +kernel) rfl rfl rfl (by decide +kernel)
set_option maxRecDepth 65536 in
theorem w_c5 : (Jvm.Cond.code ({ cls := "java/lang/Object", name := "<init>", desc := "()V" } : Jvm.MethodName) object_method_1_code (1 : Nat) (Option.none : Option Jvm.ClassFile.FieldType)).before args0 about1 = true := code_word (m := ⟨0, 0⟩) (meth := k0m0) (c := k0c0) (by decide +kernel) rfl rfl rfl (by decide +kernel)
set_option maxRecDepth 65536 in
theorem w_c6 : (Jvm.Cond.code ({ cls := "java/lang/Math", name := "max", desc := "(JJ)J" } : Jvm.MethodName) jdk_29_method_66_code (4 : Nat) (Option.some Jvm.ClassFile.FieldType.long)).before args0 about1 = true := code_word (m := ⟨9, 1⟩) (meth := k9m1) (c := k9c1) (by decide +kernel) rfl rfl rfl (by decide +kernel)
set_option maxRecDepth 65536 in
theorem w_c7 : (Jvm.Cond.code ({ cls := "com/example/causal_delivery/causaldelivery/KnownOrigin", name := "<init>", desc := "(Ljava/lang/String;)V" } : Jvm.MethodName) prog_22_method_1_code (2 : Nat) (Option.none : Option Jvm.ClassFile.FieldType)).before args0 about1 = true := code_word (m := ⟨10, 0⟩) (meth := k10m0) (c := k10c0) (by decide +kernel) rfl rfl rfl (by decide +kernel)
set_option maxRecDepth 65536 in
theorem w_c8 : (Jvm.Cond.code ({ cls := "java/util/TreeMap", name := "<init>", desc := "()V" } : Jvm.MethodName) jdk_2729_method_1_code (1 : Nat) (Option.none : Option Jvm.ClassFile.FieldType)).before args0 about1 = true := code_word (m := ⟨17, 0⟩) (meth := k17m0) (c := k17c0) (by decide +kernel) rfl rfl rfl (by decide +kernel)
set_option maxRecDepth 65536 in
theorem w_c9 : (Jvm.Cond.code ({ cls := "java/util/AbstractMap", name := "<init>", desc := "()V" } : Jvm.MethodName) jdk_71_method_1_code (1 : Nat) (Option.none : Option Jvm.ClassFile.FieldType)).before args0 about1 = true := code_word (m := ⟨12, 0⟩) (meth := k12m0) (c := k12c0) (by decide +kernel) rfl rfl rfl (by decide +kernel)
set_option maxRecDepth 65536 in
theorem w_c10 : (Jvm.Cond.code ({ cls := "com/example/causal_delivery/causaldelivery/MessageId", name := "<init>", desc := "(Ljava/lang/String;J)V" } : Jvm.MethodName) prog_29_method_1_code (4 : Nat) (Option.none : Option Jvm.ClassFile.FieldType)).before args0 about1 = true := code_word (m := ⟨20, 0⟩) (meth := k20m0) (c := k20c0) (by decide +kernel) rfl rfl rfl (by decide +kernel)
set_option maxRecDepth 65536 in
theorem w_c11 : (Jvm.Cond.code ({ cls := "java/lang/Record", name := "<init>", desc := "()V" } : Jvm.MethodName) jdk_30_method_1_code (1 : Nat) (Option.none : Option Jvm.ClassFile.FieldType)).before args0 about1 = true := code_word (m := ⟨18, 0⟩) (meth := k18m0) (c := k18c0) (by decide +kernel) rfl rfl rfl (by decide +kernel)
set_option maxRecDepth 65536 in
theorem w_c12 : (Jvm.Cond.code ({ cls := "java/util/Objects", name := "requireNonNull", desc := "(Ljava/lang/Object;Ljava/lang/String;)Ljava/lang/Object;" } : Jvm.MethodName) jdk_31_method_11_code (2 : Nat) (Option.some (Jvm.ClassFile.FieldType.object "java/lang/Object"))).before args0 about1 = true := code_word (m := ⟨21, 1⟩) (meth := k21m1) (c := k21c1) (by decide +kernel) rfl rfl rfl (by decide +kernel)
set_option maxRecDepth 65536 in
theorem w_c13 : (Jvm.Cond.code ({ cls := "com/example/causal_delivery/causaldelivery/MemberIdentifier", name := "checkNotEmpty", desc := "(Ljava/lang/String;Ljava/lang/String;)V" } : Jvm.MethodName) prog_27_method_3_code (2 : Nat) (Option.none : Option Jvm.ClassFile.FieldType)).before args0 about1 = true := code_word (m := ⟨22, 1⟩) (meth := k22m1) (c := k22c1) (by decide +kernel) rfl rfl rfl (by decide +kernel)
set_option maxRecDepth 65536 in
theorem w_c14 : (Jvm.Cond.code ({ cls := "java/lang/String", name := "isEmpty", desc := "()Z" } : Jvm.MethodName) jdk_42_method_55_code (1 : Nat) (Option.some Jvm.ClassFile.FieldType.boolean)).before args0 about1 = true := code_word (m := ⟨7, 1⟩) (meth := k7m1) (c := k7c1) (by decide +kernel) rfl rfl rfl (by decide +kernel)
set_option maxRecDepth 65536 in
theorem w_c15 : (Jvm.Cond.code ({ cls := "java/util/OptionalLong", name := "empty", desc := "()Ljava/util/OptionalLong;" } : Jvm.MethodName) jdk_2650_method_2_code (0 : Nat) (Option.some (Jvm.ClassFile.FieldType.object "java/util/OptionalLong"))).before args0 about1 = true := code_word (m := ⟨23, 1⟩) (meth := k23m1) (c := k23c1) (by decide +kernel) rfl rfl rfl (by decide +kernel)
set_option maxRecDepth 65536 in
theorem w_c16 : (Jvm.Cond.code ({ cls := "com/example/causal_delivery/causaldelivery/Predecessor", name := "<init>", desc := "(Lcom/example/causal_delivery/causaldelivery/MessageId;Ljava/util/OptionalLong;)V" } : Jvm.MethodName) prog_36_method_1_code (3 : Nat) (Option.none : Option Jvm.ClassFile.FieldType)).before args0 about1 = true := code_word (m := ⟨19, 0⟩) (meth := k19m0) (c := k19c0) (by decide +kernel) rfl rfl rfl (by decide +kernel)
set_option maxRecDepth 65536 in
theorem w_c17 : (Jvm.Cond.code ({ cls := "com/example/causal_delivery/causaldelivery/Predecessor", name := "checkDeadline", desc := "(Ljava/util/OptionalLong;)V" } : Jvm.MethodName) prog_36_method_2_code (1 : Nat) (Option.none : Option Jvm.ClassFile.FieldType)).before args0 about1 = true := code_word (m := ⟨19, 1⟩) (meth := k19m1) (c := k19c1) (by decide +kernel) rfl rfl rfl (by decide +kernel)
set_option maxRecDepth 65536 in
theorem w_c18 : (Jvm.Cond.code ({ cls := "java/util/OptionalLong", name := "isPresent", desc := "()Z" } : Jvm.MethodName) jdk_2650_method_6_code (1 : Nat) (Option.some Jvm.ClassFile.FieldType.boolean)).before args0 about1 = true := code_word (m := ⟨23, 2⟩) (meth := k23m2) (c := k23c2) (by decide +kernel) rfl rfl rfl (by decide +kernel)
set_option maxRecDepth 65536 in
theorem w_c19 : (Jvm.Cond.code ({ cls := "com/example/causal_delivery/causaldelivery/KnownOrigin", name := "isNamed", desc := "()Z" } : Jvm.MethodName) prog_22_method_13_code (1 : Nat) (Option.some Jvm.ClassFile.FieldType.boolean)).before args0 about1 = true := code_word (m := ⟨10, 3⟩) (meth := k10m3) (c := k10c3) (by decide +kernel) rfl rfl rfl (by decide +kernel)
set_option maxRecDepth 65536 in
theorem w_c20 : (Jvm.Cond.code ({ cls := "com/example/causal_delivery/causaldelivery/KnownOriginIsNamedPinLaw", name := "step", desc := "(Lcom/example/causal_delivery/causaldelivery/KnownOrigin;ILcom/example/causal_delivery/causaldelivery/Predecessor;Lcom/example/causal_delivery/causaldelivery/Predecessor;JJZI)I" } : Jvm.MethodName) method_3_code (10 : Nat) (Option.some Jvm.ClassFile.FieldType.int)).before args0 about1 = true := code_word (m := ⟨1, 2⟩) (meth := k1m2) (c := k1c2) (by decide +kernel) rfl rfl rfl (by decide +kernel)
set_option maxRecDepth 65536 in
theorem w_c21 : (Jvm.Cond.code ({ cls := "com/example/causal_delivery/causaldelivery/KnownOrigin", name := "unname", desc := "(J)Lcom/example/causal_delivery/causaldelivery/Predecessor;" } : Jvm.MethodName) prog_22_method_12_code (5 : Nat) (Option.some (Jvm.ClassFile.FieldType.object "com/example/causal_delivery/causaldelivery/Predecessor"))).before args0 about1 = true := code_word (m := ⟨10, 2⟩) (meth := k10m2) (c := k10c2) (by decide +kernel) rfl rfl rfl (by decide +kernel)
set_option maxRecDepth 65536 in
theorem w_c22 : (Jvm.Cond.code ({ cls := "com/example/causal_delivery/causaldelivery/KnownOrigin", name := "name", desc := "(Lcom/example/causal_delivery/causaldelivery/Predecessor;)Lcom/example/causal_delivery/causaldelivery/Predecessor;" } : Jvm.MethodName) prog_22_method_11_code (5 : Nat) (Option.some (Jvm.ClassFile.FieldType.object "com/example/causal_delivery/causaldelivery/Predecessor"))).before args0 about1 = true := code_word (m := ⟨10, 1⟩) (meth := k10m1) (c := k10c1) (by decide +kernel) rfl rfl rfl (by decide +kernel)
set_option maxRecDepth 65536 in
theorem w_c23 : (Jvm.Cond.code ({ cls := "com/example/causal_delivery/causaldelivery/Predecessor", name := "id", desc := "()Lcom/example/causal_delivery/causaldelivery/MessageId;" } : Jvm.MethodName) prog_36_method_9_code (1 : Nat) (Option.some (Jvm.ClassFile.FieldType.object "com/example/causal_delivery/causaldelivery/MessageId"))).before args0 about1 = true := code_word (m := ⟨19, 2⟩) (meth := k19m2) (c := k19c2) (by decide +kernel) rfl rfl rfl (by decide +kernel)
set_option maxRecDepth 65536 in
theorem w_c24 : (Jvm.Cond.code ({ cls := "com/example/causal_delivery/causaldelivery/MessageId", name := "seq", desc := "()J" } : Jvm.MethodName) prog_29_method_8_code (1 : Nat) (Option.some Jvm.ClassFile.FieldType.long)).before args0 about1 = true := code_word (m := ⟨20, 1⟩) (meth := k20m1) (c := k20c1) (by decide +kernel) rfl rfl rfl (by decide +kernel)
set_option maxRecDepth 65536 in
theorem w_c25 : (Jvm.Cond.code ({ cls := "java/util/ArrayList", name := "<init>", desc := "(I)V" } : Jvm.MethodName) jdk_38_method_1_code (2 : Nat) (Option.none : Option Jvm.ClassFile.FieldType)).before args0 about1 = true := code_word (m := ⟨31, 0⟩) (meth := k31m0) (c := k31c0) (by decide +kernel) rfl rfl rfl (by decide +kernel)
set_option maxRecDepth 65536 in
theorem w_c26 : (Jvm.Cond.code ({ cls := "java/util/AbstractList", name := "<init>", desc := "()V" } : Jvm.MethodName) jdk_39_method_1_code (1 : Nat) (Option.none : Option Jvm.ClassFile.FieldType)).before args0 about1 = true := code_word (m := ⟨29, 0⟩) (meth := k29m0) (c := k29c0) (by decide +kernel) rfl rfl rfl (by decide +kernel)
set_option maxRecDepth 65536 in
theorem w_c27 : (Jvm.Cond.code ({ cls := "java/util/AbstractCollection", name := "<init>", desc := "()V" } : Jvm.MethodName) jdk_22_method_1_code (1 : Nat) (Option.none : Option Jvm.ClassFile.FieldType)).before args0 about1 = true := code_word (m := ⟨26, 0⟩) (meth := k26m0) (c := k26c0) (by decide +kernel) rfl rfl rfl (by decide +kernel)
set_option maxRecDepth 65536 in
theorem w_c28 : (Jvm.Cond.code ({ cls := "java/util/ArrayList", name := "size", desc := "()I" } : Jvm.MethodName) jdk_38_method_8_code (1 : Nat) (Option.some Jvm.ClassFile.FieldType.int)).before args0 about1 = true := code_word (m := ⟨31, 2⟩) (meth := k31m2) (c := k31c2) (by decide +kernel) rfl rfl rfl (by decide +kernel)
set_option maxRecDepth 65536 in
theorem w_c29 : (Jvm.Cond.code ({ cls := "java/util/ArrayList", name := "add", desc := "(Ljava/lang/Object;)Z" } : Jvm.MethodName) jdk_38_method_25_code (2 : Nat) (Option.some Jvm.ClassFile.FieldType.boolean)).before args0 about1 = true := code_word (m := ⟨31, 8⟩) (meth := k31m8) (c := k31c8) (by decide +kernel) rfl rfl rfl (by decide +kernel)
set_option maxRecDepth 65536 in
theorem w_c30 : (Jvm.Cond.code ({ cls := "java/util/ArrayList", name := "add", desc := "(Ljava/lang/Object;[Ljava/lang/Object;I)V" } : Jvm.MethodName) jdk_38_method_24_code (4 : Nat) (Option.none : Option Jvm.ClassFile.FieldType)).before args0 about1 = true := code_word (m := ⟨31, 7⟩) (meth := k31m7) (c := k31c7) (by decide +kernel) rfl rfl rfl (by decide +kernel)
set_option maxRecDepth 65536 in
theorem w_c31 : (Jvm.Cond.code ({ cls := "java/util/ArrayList", name := "get", desc := "(I)Ljava/lang/Object;" } : Jvm.MethodName) jdk_38_method_20_code (2 : Nat) (Option.some (Jvm.ClassFile.FieldType.object "java/lang/Object"))).before args0 about1 = true := code_word (m := ⟨31, 5⟩) (meth := k31m5) (c := k31c5) (by decide +kernel) rfl rfl rfl (by decide +kernel)
set_option maxRecDepth 65536 in
theorem w_c32 : (Jvm.Cond.code ({ cls := "java/util/Objects", name := "checkIndex", desc := "(II)I" } : Jvm.MethodName) jdk_31_method_17_code (2 : Nat) (Option.some Jvm.ClassFile.FieldType.int)).before args0 about1 = true := code_word (m := ⟨21, 2⟩) (meth := k21m2) (c := k21c2) (by decide +kernel) rfl rfl rfl (by decide +kernel)
set_option maxRecDepth 65536 in
theorem w_c33 : (Jvm.Cond.code ({ cls := "jdk/internal/util/Preconditions", name := "checkIndex", desc := "(IILjava/util/function/BiFunction;)I" } : Jvm.MethodName) jdk_41_method_11_code (3 : Nat) (Option.some Jvm.ClassFile.FieldType.int)).before args0 about1 = true := code_word (m := ⟨32, 1⟩) (meth := k32m1) (c := k32c1) (by decide +kernel) rfl rfl rfl (by decide +kernel)
set_option maxRecDepth 65536 in
theorem w_c34 : (Jvm.Cond.code ({ cls := "java/util/ArrayList", name := "elementData", desc := "(I)Ljava/lang/Object;" } : Jvm.MethodName) jdk_38_method_18_code (2 : Nat) (Option.some (Jvm.ClassFile.FieldType.object "java/lang/Object"))).before args0 about1 = true := code_word (m := ⟨31, 4⟩) (meth := k31m4) (c := k31c4) (by decide +kernel) rfl rfl rfl (by decide +kernel)
set_option maxRecDepth 65536 in
theorem w_c35 : (Jvm.Cond.code ({ cls := "java/util/ArrayList", name := "set", desc := "(ILjava/lang/Object;)Ljava/lang/Object;" } : Jvm.MethodName) jdk_38_method_23_code (4 : Nat) (Option.some (Jvm.ClassFile.FieldType.object "java/lang/Object"))).before args0 about1 = true := code_word (m := ⟨31, 6⟩) (meth := k31m6) (c := k31c6) (by decide +kernel) rfl rfl rfl (by decide +kernel)
set_option maxRecDepth 65536 in
theorem w_c36 : (Jvm.Cond.code ({ cls := "java/util/ArrayList", name := "remove", desc := "(I)Ljava/lang/Object;" } : Jvm.MethodName) jdk_38_method_29_code (4 : Nat) (Option.some (Jvm.ClassFile.FieldType.object "java/lang/Object"))).before args0 about1 = true := code_word (m := ⟨31, 9⟩) (meth := k31m9) (c := k31c9) (by decide +kernel) rfl rfl rfl (by decide +kernel)
set_option maxRecDepth 65536 in
theorem w_c37 : (Jvm.Cond.code ({ cls := "java/util/ArrayList", name := "fastRemove", desc := "([Ljava/lang/Object;I)V" } : Jvm.MethodName) jdk_38_method_39_code (4 : Nat) (Option.none : Option Jvm.ClassFile.FieldType)).before args0 about1 = true := code_word (m := ⟨31, 10⟩) (meth := k31m10) (c := k31c10) (by decide +kernel) rfl rfl rfl (by decide +kernel)
set_option maxRecDepth 65536 in
theorem w_c38 : (Jvm.Cond.code ({ cls := "java/util/ArrayList", name := "isEmpty", desc := "()Z" } : Jvm.MethodName) jdk_38_method_9_code (1 : Nat) (Option.some Jvm.ClassFile.FieldType.boolean)).before args0 about1 = true := code_word (m := ⟨31, 3⟩) (meth := k31m3) (c := k31c3) (by decide +kernel) rfl rfl rfl (by decide +kernel)
def codes1 : List Jvm.Cond := [Jvm.Cond.code x code maxLocals ret, Jvm.Cond.code ({ cls := "java/lang/String", name := "valueOf", desc := "(C)Ljava/lang/String;" } : Jvm.MethodName) jdk_42_method_139_code (1 : Nat) (Option.some (Jvm.ClassFile.FieldType.object "java/lang/String")), Jvm.Cond.code ({ cls := "java/lang/StringLatin1", name := "canEncode", desc := "(C)Z" } : Jvm.MethodName) jdk_43_method_3_code (1 : Nat) (Option.some Jvm.ClassFile.FieldType.boolean), Jvm.Cond.code ({ cls := "java/lang/StringLatin1", name := "toBytes", desc := "(C)[B" } : Jvm.MethodName) jdk_43_method_46_code (1 : Nat) (Option.some (Jvm.ClassFile.FieldType.array Jvm.ClassFile.FieldType.byte)), Jvm.Cond.code ({ cls := "java/lang/String", name := "<init>", desc := "([BB)V" } : Jvm.MethodName) jdk_42_method_151_code (3 : Nat) (Option.none : Option Jvm.ClassFile.FieldType), Jvm.Cond.code ({ cls := "java/lang/Object", name := "<init>", desc := "()V" } : Jvm.MethodName) object_method_1_code (1 : Nat) (Option.none : Option Jvm.ClassFile.FieldType), Jvm.Cond.code ({ cls := "java/lang/Math", name := "max", desc := "(JJ)J" } : Jvm.MethodName) jdk_29_method_66_code (4 : Nat) (Option.some Jvm.ClassFile.FieldType.long), Jvm.Cond.code ({ cls := "com/example/causal_delivery/causaldelivery/KnownOrigin", name := "<init>", desc := "(Ljava/lang/String;)V" } : Jvm.MethodName) prog_22_method_1_code (2 : Nat) (Option.none : Option Jvm.ClassFile.FieldType), Jvm.Cond.code ({ cls := "java/util/TreeMap", name := "<init>", desc := "()V" } : Jvm.MethodName) jdk_2729_method_1_code (1 : Nat) (Option.none : Option Jvm.ClassFile.FieldType), Jvm.Cond.code ({ cls := "java/util/AbstractMap", name := "<init>", desc := "()V" } : Jvm.MethodName) jdk_71_method_1_code (1 : Nat) (Option.none : Option Jvm.ClassFile.FieldType), Jvm.Cond.code ({ cls := "com/example/causal_delivery/causaldelivery/MessageId", name := "<init>", desc := "(Ljava/lang/String;J)V" } : Jvm.MethodName) prog_29_method_1_code (4 : Nat) (Option.none : Option Jvm.ClassFile.FieldType), Jvm.Cond.code ({ cls := "java/lang/Record", name := "<init>", desc := "()V" } : Jvm.MethodName) jdk_30_method_1_code (1 : Nat) (Option.none : Option Jvm.ClassFile.FieldType), Jvm.Cond.code ({ cls := "java/util/Objects", name := "requireNonNull", desc := "(Ljava/lang/Object;Ljava/lang/String;)Ljava/lang/Object;" } : Jvm.MethodName) jdk_31_method_11_code (2 : Nat) (Option.some (Jvm.ClassFile.FieldType.object "java/lang/Object")), Jvm.Cond.code ({ cls := "com/example/causal_delivery/causaldelivery/MemberIdentifier", name := "checkNotEmpty", desc := "(Ljava/lang/String;Ljava/lang/String;)V" } : Jvm.MethodName) prog_27_method_3_code (2 : Nat) (Option.none : Option Jvm.ClassFile.FieldType), Jvm.Cond.code ({ cls := "java/lang/String", name := "isEmpty", desc := "()Z" } : Jvm.MethodName) jdk_42_method_55_code (1 : Nat) (Option.some Jvm.ClassFile.FieldType.boolean), Jvm.Cond.code ({ cls := "java/util/OptionalLong", name := "empty", desc := "()Ljava/util/OptionalLong;" } : Jvm.MethodName) jdk_2650_method_2_code (0 : Nat) (Option.some (Jvm.ClassFile.FieldType.object "java/util/OptionalLong")), Jvm.Cond.code ({ cls := "com/example/causal_delivery/causaldelivery/Predecessor", name := "<init>", desc := "(Lcom/example/causal_delivery/causaldelivery/MessageId;Ljava/util/OptionalLong;)V" } : Jvm.MethodName) prog_36_method_1_code (3 : Nat) (Option.none : Option Jvm.ClassFile.FieldType), Jvm.Cond.code ({ cls := "com/example/causal_delivery/causaldelivery/Predecessor", name := "checkDeadline", desc := "(Ljava/util/OptionalLong;)V" } : Jvm.MethodName) prog_36_method_2_code (1 : Nat) (Option.none : Option Jvm.ClassFile.FieldType), Jvm.Cond.code ({ cls := "java/util/OptionalLong", name := "isPresent", desc := "()Z" } : Jvm.MethodName) jdk_2650_method_6_code (1 : Nat) (Option.some Jvm.ClassFile.FieldType.boolean), Jvm.Cond.code ({ cls := "com/example/causal_delivery/causaldelivery/KnownOrigin", name := "isNamed", desc := "()Z" } : Jvm.MethodName) prog_22_method_13_code (1 : Nat) (Option.some Jvm.ClassFile.FieldType.boolean), Jvm.Cond.code ({ cls := "com/example/causal_delivery/causaldelivery/KnownOriginIsNamedPinLaw", name := "step", desc := "(Lcom/example/causal_delivery/causaldelivery/KnownOrigin;ILcom/example/causal_delivery/causaldelivery/Predecessor;Lcom/example/causal_delivery/causaldelivery/Predecessor;JJZI)I" } : Jvm.MethodName) method_3_code (10 : Nat) (Option.some Jvm.ClassFile.FieldType.int), Jvm.Cond.code ({ cls := "com/example/causal_delivery/causaldelivery/KnownOrigin", name := "unname", desc := "(J)Lcom/example/causal_delivery/causaldelivery/Predecessor;" } : Jvm.MethodName) prog_22_method_12_code (5 : Nat) (Option.some (Jvm.ClassFile.FieldType.object "com/example/causal_delivery/causaldelivery/Predecessor")), Jvm.Cond.code ({ cls := "com/example/causal_delivery/causaldelivery/KnownOrigin", name := "name", desc := "(Lcom/example/causal_delivery/causaldelivery/Predecessor;)Lcom/example/causal_delivery/causaldelivery/Predecessor;" } : Jvm.MethodName) prog_22_method_11_code (5 : Nat) (Option.some (Jvm.ClassFile.FieldType.object "com/example/causal_delivery/causaldelivery/Predecessor")), Jvm.Cond.code ({ cls := "com/example/causal_delivery/causaldelivery/Predecessor", name := "id", desc := "()Lcom/example/causal_delivery/causaldelivery/MessageId;" } : Jvm.MethodName) prog_36_method_9_code (1 : Nat) (Option.some (Jvm.ClassFile.FieldType.object "com/example/causal_delivery/causaldelivery/MessageId")), Jvm.Cond.code ({ cls := "com/example/causal_delivery/causaldelivery/MessageId", name := "seq", desc := "()J" } : Jvm.MethodName) prog_29_method_8_code (1 : Nat) (Option.some Jvm.ClassFile.FieldType.long), Jvm.Cond.code ({ cls := "java/util/ArrayList", name := "<init>", desc := "(I)V" } : Jvm.MethodName) jdk_38_method_1_code (2 : Nat) (Option.none : Option Jvm.ClassFile.FieldType), Jvm.Cond.code ({ cls := "java/util/AbstractList", name := "<init>", desc := "()V" } : Jvm.MethodName) jdk_39_method_1_code (1 : Nat) (Option.none : Option Jvm.ClassFile.FieldType), Jvm.Cond.code ({ cls := "java/util/AbstractCollection", name := "<init>", desc := "()V" } : Jvm.MethodName) jdk_22_method_1_code (1 : Nat) (Option.none : Option Jvm.ClassFile.FieldType), Jvm.Cond.code ({ cls := "java/util/ArrayList", name := "size", desc := "()I" } : Jvm.MethodName) jdk_38_method_8_code (1 : Nat) (Option.some Jvm.ClassFile.FieldType.int), Jvm.Cond.code ({ cls := "java/util/ArrayList", name := "add", desc := "(Ljava/lang/Object;)Z" } : Jvm.MethodName) jdk_38_method_25_code (2 : Nat) (Option.some Jvm.ClassFile.FieldType.boolean), Jvm.Cond.code ({ cls := "java/util/ArrayList", name := "add", desc := "(Ljava/lang/Object;[Ljava/lang/Object;I)V" } : Jvm.MethodName) jdk_38_method_24_code (4 : Nat) (Option.none : Option Jvm.ClassFile.FieldType), Jvm.Cond.code ({ cls := "java/util/ArrayList", name := "get", desc := "(I)Ljava/lang/Object;" } : Jvm.MethodName) jdk_38_method_20_code (2 : Nat) (Option.some (Jvm.ClassFile.FieldType.object "java/lang/Object")), Jvm.Cond.code ({ cls := "java/util/Objects", name := "checkIndex", desc := "(II)I" } : Jvm.MethodName) jdk_31_method_17_code (2 : Nat) (Option.some Jvm.ClassFile.FieldType.int), Jvm.Cond.code ({ cls := "jdk/internal/util/Preconditions", name := "checkIndex", desc := "(IILjava/util/function/BiFunction;)I" } : Jvm.MethodName) jdk_41_method_11_code (3 : Nat) (Option.some Jvm.ClassFile.FieldType.int), Jvm.Cond.code ({ cls := "java/util/ArrayList", name := "elementData", desc := "(I)Ljava/lang/Object;" } : Jvm.MethodName) jdk_38_method_18_code (2 : Nat) (Option.some (Jvm.ClassFile.FieldType.object "java/lang/Object")), Jvm.Cond.code ({ cls := "java/util/ArrayList", name := "set", desc := "(ILjava/lang/Object;)Ljava/lang/Object;" } : Jvm.MethodName) jdk_38_method_23_code (4 : Nat) (Option.some (Jvm.ClassFile.FieldType.object "java/lang/Object")), Jvm.Cond.code ({ cls := "java/util/ArrayList", name := "remove", desc := "(I)Ljava/lang/Object;" } : Jvm.MethodName) jdk_38_method_29_code (4 : Nat) (Option.some (Jvm.ClassFile.FieldType.object "java/lang/Object")), Jvm.Cond.code ({ cls := "java/util/ArrayList", name := "fastRemove", desc := "([Ljava/lang/Object;I)V" } : Jvm.MethodName) jdk_38_method_39_code (4 : Nat) (Option.none : Option Jvm.ClassFile.FieldType), Jvm.Cond.code ({ cls := "java/util/ArrayList", name := "isEmpty", desc := "()Z" } : Jvm.MethodName) jdk_38_method_9_code (1 : Nat) (Option.some Jvm.ClassFile.FieldType.boolean)]
set_option maxRecDepth 65536 in
theorem codes_eq : words1.filter isCode = codes1 := rfl
theorem w_codes : ∀ c ∈ words1.filter isCode, c.before args0 about1 = true := by
  rw [codes_eq]
  intro c hc
  simp only [codes1, List.mem_cons, List.not_mem_nil, or_false] at hc
  rcases hc with rfl | rfl | rfl | rfl | rfl | rfl | rfl | rfl | rfl | rfl | rfl | rfl | rfl | rfl | rfl | rfl | rfl | rfl | rfl | rfl | rfl | rfl | rfl | rfl | rfl | rfl | rfl | rfl | rfl | rfl | rfl | rfl | rfl | rfl | rfl | rfl | rfl | rfl | rfl
  · exact w_c0
  · exact w_c1
  · exact w_c2
  · exact w_c3
  · exact w_c4
  · exact w_c5
  · exact w_c6
  · exact w_c7
  · exact w_c8
  · exact w_c9
  · exact w_c10
  · exact w_c11
  · exact w_c12
  · exact w_c13
  · exact w_c14
  · exact w_c15
  · exact w_c16
  · exact w_c17
  · exact w_c18
  · exact w_c19
  · exact w_c20
  · exact w_c21
  · exact w_c22
  · exact w_c23
  · exact w_c24
  · exact w_c25
  · exact w_c26
  · exact w_c27
  · exact w_c28
  · exact w_c29
  · exact w_c30
  · exact w_c31
  · exact w_c32
  · exact w_c33
  · exact w_c34
  · exact w_c35
  · exact w_c36
  · exact w_c37
  · exact w_c38
set_option maxRecDepth 65536 in
theorem w_t1 : (words1.take 24).all (fun c => isCode c || c.before args0 about1) = true := by decide +kernel
set_option maxRecDepth 65536 in
theorem w_t2 : ((words1.drop 24).take 24).all (fun c => isCode c || c.before args0 about1) = true := by decide +kernel
set_option maxRecDepth 65536 in
theorem w_t3 : (((words1.drop 24).drop 24).take 24).all (fun c => isCode c || c.before args0 about1) = true := by decide +kernel
set_option maxRecDepth 65536 in
theorem w_t4 : ((((words1.drop 24).drop 24).drop 24).take 24).all (fun c => isCode c || c.before args0 about1) = true := by decide +kernel
set_option maxRecDepth 65536 in
theorem w_t5 : (((((words1.drop 24).drop 24).drop 24).drop 24).take 24).all (fun c => isCode c || c.before args0 about1) = true := by decide +kernel
set_option maxRecDepth 65536 in
theorem w_t6 : ((((((words1.drop 24).drop 24).drop 24).drop 24).drop 24).take 24).all (fun c => isCode c || c.before args0 about1) = true := by decide +kernel
set_option maxRecDepth 65536 in
theorem w_t7 : (((((((words1.drop 24).drop 24).drop 24).drop 24).drop 24).drop 24).take 24).all (fun c => isCode c || c.before args0 about1) = true := by decide +kernel
set_option maxRecDepth 65536 in
theorem w_t8 : ((((((((words1.drop 24).drop 24).drop 24).drop 24).drop 24).drop 24).drop 24).take 24).all (fun c => isCode c || c.before args0 about1) = true := by decide +kernel
set_option maxRecDepth 65536 in
theorem w_t9 : (((((((((words1.drop 24).drop 24).drop 24).drop 24).drop 24).drop 24).drop 24).drop 24).take 24).all (fun c => isCode c || c.before args0 about1) = true := by decide +kernel
set_option maxRecDepth 65536 in
theorem w_t10 : ((((((((((words1.drop 24).drop 24).drop 24).drop 24).drop 24).drop 24).drop 24).drop 24).drop 24).take 24).all (fun c => isCode c || c.before args0 about1) = true := by decide +kernel
set_option maxRecDepth 65536 in
theorem w_t11 : ((((((((((words1.drop 24).drop 24).drop 24).drop 24).drop 24).drop 24).drop 24).drop 24).drop 24).drop 24).all (fun c => isCode c || c.before args0 about1) = true := by decide +kernel
theorem w_tables : (allAtoms (Jvm.Cond.code x code maxLocals ret :: tables_1)).before args0 about1 = true := by
  rw [allAtoms_all]
  show words1.all (fun c => c.before args0 about1) = true
  refine all_split ?_ w_codes
  rw [← List.take_append_drop 24 words1, List.all_append, w_t1, ← List.take_append_drop 24 (words1.drop 24), List.all_append, w_t2, ← List.take_append_drop 24 ((words1.drop 24).drop 24), List.all_append, w_t3, ← List.take_append_drop 24 (((words1.drop 24).drop 24).drop 24), List.all_append, w_t4, ← List.take_append_drop 24 ((((words1.drop 24).drop 24).drop 24).drop 24), List.all_append, w_t5, ← List.take_append_drop 24 (((((words1.drop 24).drop 24).drop 24).drop 24).drop 24), List.all_append, w_t6, ← List.take_append_drop 24 ((((((words1.drop 24).drop 24).drop 24).drop 24).drop 24).drop 24), List.all_append, w_t7, ← List.take_append_drop 24 (((((((words1.drop 24).drop 24).drop 24).drop 24).drop 24).drop 24).drop 24), List.all_append, w_t8, ← List.take_append_drop 24 ((((((((words1.drop 24).drop 24).drop 24).drop 24).drop 24).drop 24).drop 24).drop 24), List.all_append, w_t9, ← List.take_append_drop 24 (((((((((words1.drop 24).drop 24).drop 24).drop 24).drop 24).drop 24).drop 24).drop 24).drop 24), List.all_append, w_t10, w_t11]
  rfl
set_option maxRecDepth 65536 in
theorem w_rest : rest_1_c.before args0 about1 = true := by decide +kernel
set_option maxRecDepth 65536 in
theorem w_case : (Jvm.Cond.and given_1 narrow_1).before args0 about1 = true := by decide +kernel
theorem w_applies : (headSpec (Jvm.Cond.code x code maxLocals ret :: tables_1) room_1).applies x e0.platform about1 = true :=
  (Spec.applies_iff w_frames).mpr ⟨w_running, w_runnable, w_alone, w_named, w_hears, w_ripe, w_room, w_tables⟩
theorem atStart : AtStart classFile x code maxLocals ret World_1 tables_1 room_1 Calls_1 rest_1 Pre_1 launch0 p0 e0 about1 theMethod args0 below0 :=
  ⟨lists_1, trivial, launch0.admits_env _ _ _, launch0.least_env, fairChoices_fair.cas, fairChoices_fair.clock, w_frames, w_args, w_heap, w_applies, trivial, w_rest, w_case⟩
end start1
theorem witness_1 : WitnessClaimed_1 := ⟨start1.p0, start1.e0, start1.about1, start1.theMethod, start1.args0, start1.below0, start1.atStart⟩
end Jvm.Pilot.@@N@@
