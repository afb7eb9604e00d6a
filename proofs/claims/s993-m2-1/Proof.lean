import JvmDerived
import JvmDerived.Pilot.@@N@@Statement
import JvmDerived.Pilot.@@N@@Code
set_option linter.unusedVariables false
set_option linter.unusedSimpArgs false
namespace Jvm.RoadKit
open Sem ClassFile Op Lib Jvm.Stand Jvm.Free Jvm.LawKit
section New
variable {p : Program} {l : Launch} {e : Env} {R : Room} {s : State} {m : MethodId} {args : Array Value} {below : List Frame} {meth : Method} {c : Code} {T : State} {locs : List Loc} {cells slots : Nat}
theorem retI (X : Stand p l e R s m args below meth c T locs cells slots) (hx : p.tables.exec = Jvm.exec) {pc : Nat} {Ls : Array Slot} {z : Int32} {rest : List Value} (hret : meth.sig.returnType = some .int) (hd : decode c.code pc = .ok (.ireturn, 1)) {fs : List Frame}
    (hl : ∀ (f : JFrame) (acts : List Action), f.method = m → f.locked = none → f.entered = [] → (doReturn e (T.setTop f) acts (some (.int z))).1 = T.setFrames fs) : Steps p.tables e below (T.setTop (mkF m pc Ls (.int z :: rest))) (T.setFrames fs) := by
  have hm' : T.vm.method? m = some meth := X.method'
  have hn : narrow .int (.int z) = .int z := rfl
  show Steps p.tables e below (T.setTop { method := m, pc := pc, locals := Ls, stack := _ :: rest, locked := none }) _
  jvm_step X.here [X.here.top, hx, hd, hm', hret, hn]
  first | (intro acts; rw [hl _ acts rfl rfl rfl]) | rw [hl _ _ rfl rfl rfl]
  exact Steps.refl _
theorem own_to {L' : List Loc} {k' n' : Nat} (X : Stand p l e R s m args below meth c T locs cells slots) (a : locs = L') (b : cells = k') (d : slots = n') : Stand p l e R s m args below meth c T L' k' n' := by
  subst a b d
  exact X
end New
end Jvm.RoadKit
namespace Jvm.Pilot.@@N@@
open Jvm Jvm.ClassFile Sem Op Lib Jvm.Free Jvm.Stand Jvm.LawKit Jvm.RoadKit Bundle Jvm.Pilot.@@N@@.Jvm.D
theorem ef_rm0 (m : MethodId) (x0 : Int32) (x1 : Int32) (x2 : Int32) (x3 : Int32) : entryFrame m #[(.int x0), (.int x1), (.int x2), (.int x3)] maxLocals = mkF m 0 #[.val (.int x0), .val (.int x1), .val (.int x2), .val (.int x3), .unset, .unset, .unset, .unset, .unset, .unset, .unset, .unset] [] := by first | (simp [entryFrame, mkF, argsToLocals, Value.category, maxLocals]; done) | rfl
theorem ef_rc1_traceAsked (m : MethodId)  : entryFrame m #[.null] 1 = mkF m 0 #[.val .null] [] := by first | (simp [entryFrame, mkF, argsToLocals, Value.category]; done) | rfl
theorem d_prog_17_method_2_0 : decode prog_17_method_2_code 0 = .ok (.aload_n 0, 1) := by decide +kernel
theorem d_prog_17_method_2_1 : decode prog_17_method_2_code 1 = .ok (.ifnull 23, 3) := by decide +kernel
theorem d_prog_17_method_2_24 : decode prog_17_method_2_code 24 = .ok (.iconst 0, 1) := by decide +kernel
theorem d_prog_17_method_2_25 : decode prog_17_method_2_code 25 = .ok (.ireturn, 1) := by decide +kernel
theorem pn_0 : plainName "com/example/marga/marga/cli/UnforeseenFailure" = true := by first | (simp [plainName, overriddenIn]; done) | decide +kernel
theorem pd_0 : parseMethodDescriptor "(Ljava/lang/String;)Z" = some ⟨[(.object "java/lang/String")], some .boolean⟩ := by decide +kernel
theorem ef_rc2_make (m : MethodId) (x0 : Int32) (x1 : Int32) (x2 : Int32) (x3 : Int32) : entryFrame m #[(.int x0), (.int x1), (.int x2), (.int x3)] 4 = mkF m 0 #[.val (.int x0), .val (.int x1), .val (.int x2), .val (.int x3)] [] := by first | (simp [entryFrame, mkF, argsToLocals, Value.category]; done) | rfl
theorem d_method_2_0 : decode method_2_code 0 = .ok (.iload_n 0, 1) := by decide +kernel
theorem d_method_2_1 : decode method_2_code 1 = .ok (.ifCond .ne 14, 3) := by decide +kernel
theorem d_method_2_4 : decode method_2_code 4 = .ok (.new 7, 3) := by decide +kernel
theorem d_method_2_7 : decode method_2_code 7 = .ok (.dup, 1) := by decide +kernel
theorem d_method_2_8 : decode method_2_code 8 = .ok (.iconst 0, 1) := by decide +kernel
theorem d_method_2_9 : decode method_2_code 9 = .ok (.newarray .char, 2) := by decide +kernel
theorem ef_rc3_init (m : MethodId) (x0 : Addr) (x1 : Addr) : entryFrame m #[(.ref x0), (.ref x1)] 2 = mkF m 0 #[.val (.ref x0), .val (.ref x1)] [] := by first | (simp [entryFrame, mkF, argsToLocals, Value.category]; done) | rfl
theorem d_jdk_42_method_3_0 : decode jdk_42_method_3_code 0 = .ok (.aload_n 0, 1) := by decide +kernel
theorem d_jdk_42_method_3_1 : decode jdk_42_method_3_code 1 = .ok (.aload_n 1, 1) := by decide +kernel
theorem d_jdk_42_method_3_2 : decode jdk_42_method_3_code 2 = .ok (.iconst 0, 1) := by decide +kernel
theorem d_jdk_42_method_3_3 : decode jdk_42_method_3_code 3 = .ok (.aload_n 1, 1) := by decide +kernel
theorem d_jdk_42_method_3_4 : decode jdk_42_method_3_code 4 = .ok (.arraylength, 1) := by decide +kernel
theorem d_jdk_42_method_3_5 : decode jdk_42_method_3_code 5 = .ok (.aconst_null, 1) := by decide +kernel
theorem ef_rc4_init (m : MethodId) (x0 : Addr) (x1 : Addr) (x2 : Int32) (x3 : Int32) : entryFrame m #[(.ref x0), (.ref x1), (.int x2), (.int x3), .null] 6 = mkF m 0 #[.val (.ref x0), .val (.ref x1), .val (.int x2), .val (.int x3), .val .null, .unset] [] := by first | (simp [entryFrame, mkF, argsToLocals, Value.category]; done) | rfl
theorem d_jdk_42_method_149_0 : decode jdk_42_method_149_code 0 = .ok (.aload_n 0, 1) := by decide +kernel
theorem d_jdk_42_method_149_1 : decode jdk_42_method_149_code 1 = .ok (.invokespecial 1, 3) := by decide +kernel
theorem d_jdk_42_method_149_4 : decode jdk_42_method_149_code 4 = .ok (.iload_n 3, 1) := by decide +kernel
theorem d_jdk_42_method_149_5 : decode jdk_42_method_149_code 5 = .ok (.ifCond .ne 22, 3) := by decide +kernel
theorem d_jdk_42_method_149_8 : decode jdk_42_method_149_code 8 = .ok (.aload_n 0, 1) := by decide +kernel
theorem d_jdk_42_method_149_9 : decode jdk_42_method_149_code 9 = .ok (.ldc 7, 2) := by decide +kernel
theorem d_jdk_42_method_149_11 : decode jdk_42_method_149_code 11 = .ok (.getfield 9, 3) := by decide +kernel
theorem d_jdk_42_method_149_14 : decode jdk_42_method_149_code 14 = .ok (.putfield 9, 3) := by decide +kernel
theorem d_jdk_42_method_149_17 : decode jdk_42_method_149_code 17 = .ok (.aload_n 0, 1) := by decide +kernel
theorem d_jdk_42_method_149_18 : decode jdk_42_method_149_code 18 = .ok (.ldc 7, 2) := by decide +kernel
theorem d_jdk_42_method_149_20 : decode jdk_42_method_149_code 20 = .ok (.getfield 15, 3) := by decide +kernel
theorem d_jdk_42_method_149_23 : decode jdk_42_method_149_code 23 = .ok (.putfield 15, 3) := by decide +kernel
theorem d_jdk_42_method_149_26 : decode jdk_42_method_149_code 26 = .ok (.return_, 1) := by decide +kernel
theorem pn_1 : plainName "java/lang/String" = true := by first | (simp [plainName, overriddenIn]; done) | decide +kernel
theorem pd_1 : parseMethodDescriptor "([CIILjava/lang/Void;)V" = some ⟨[(.array .char), .int, .int, (.object "java/lang/Void")], none⟩ := by decide +kernel
theorem d_jdk_42_method_3_6 : decode jdk_42_method_3_code 6 = .ok (.invokespecial 27, 3) := by decide +kernel
theorem d_jdk_42_method_3_9 : decode jdk_42_method_3_code 9 = .ok (.return_, 1) := by decide +kernel
theorem pd_2 : parseMethodDescriptor "([C)V" = some ⟨[(.array .char)], none⟩ := by decide +kernel
theorem d_method_2_11 : decode method_2_code 11 = .ok (.invokespecial 9, 3) := by decide +kernel
theorem d_method_2_14 : decode method_2_code 14 = .ok (.areturn, 1) := by decide +kernel
theorem pn_2 : plainName "com/example/marga/marga/cli/UnforeseenFailureTraceAskedPinLaw" = true := by first | (simp [plainName, overriddenIn]; done) | decide +kernel
theorem pd_3 : parseMethodDescriptor "(ICCC)Ljava/lang/String;" = some ⟨[.int, .char, .char, .char], some (.object "java/lang/String")⟩ := by decide +kernel
theorem ef_rc5_traceAsked (m : MethodId) (x0 : Addr) : entryFrame m #[(.ref x0)] 1 = mkF m 0 #[.val (.ref x0)] [] := by first | (simp [entryFrame, mkF, argsToLocals, Value.category]; done) | rfl
theorem d_prog_17_method_2_4 : decode prog_17_method_2_code 4 = .ok (.aload_n 0, 1) := by decide +kernel
theorem ef_rc6_isEmpty (m : MethodId) (x0 : Addr) : entryFrame m #[(.ref x0)] 1 = mkF m 0 #[.val (.ref x0)] [] := by first | (simp [entryFrame, mkF, argsToLocals, Value.category]; done) | rfl
theorem d_jdk_42_method_55_0 : decode jdk_42_method_55_code 0 = .ok (.aload_n 0, 1) := by decide +kernel
theorem d_jdk_42_method_55_1 : decode jdk_42_method_55_code 1 = .ok (.getfield 9, 3) := by decide +kernel
theorem d_jdk_42_method_55_4 : decode jdk_42_method_55_code 4 = .ok (.arraylength, 1) := by decide +kernel
theorem d_jdk_42_method_55_5 : decode jdk_42_method_55_code 5 = .ok (.ifCond .ne 7, 3) := by decide +kernel
theorem d_jdk_42_method_55_8 : decode jdk_42_method_55_code 8 = .ok (.iconst 1, 1) := by decide +kernel
theorem d_jdk_42_method_55_9 : decode jdk_42_method_55_code 9 = .ok (.goto 4, 3) := by decide +kernel
theorem d_jdk_42_method_55_13 : decode jdk_42_method_55_code 13 = .ok (.ireturn, 1) := by decide +kernel
theorem pd_4 : parseMethodDescriptor "()Z" = some ⟨[], some .boolean⟩ := by decide +kernel
theorem d_prog_17_method_2_5 : decode prog_17_method_2_code 5 = .ok (.invokevirtual 7, 3) := by decide +kernel
theorem d_prog_17_method_2_8 : decode prog_17_method_2_code 8 = .ok (.ifCond .ne 16, 3) := by decide +kernel
theorem ef_rc7_make (m : MethodId) (x0 : Int32) (x1 : Int32) (x2 : Int32) (x3 : Int32) : entryFrame m #[(.int x0), (.int x1), (.int x2), (.int x3)] 4 = mkF m 0 #[.val (.int x0), .val (.int x1), .val (.int x2), .val (.int x3)] [] := by first | (simp [entryFrame, mkF, argsToLocals, Value.category]; done) | rfl
theorem d_method_2_15 : decode method_2_code 15 = .ok (.iload_n 0, 1) := by decide +kernel
theorem d_method_2_16 : decode method_2_code 16 = .ok (.iconst 1, 1) := by decide +kernel
theorem d_method_2_17 : decode method_2_code 17 = .ok (.if_icmp .ne 18, 3) := by decide +kernel
theorem d_method_2_20 : decode method_2_code 20 = .ok (.new 7, 3) := by decide +kernel
theorem d_method_2_23 : decode method_2_code 23 = .ok (.dup, 1) := by decide +kernel
theorem d_method_2_24 : decode method_2_code 24 = .ok (.iconst 1, 1) := by decide +kernel
theorem d_method_2_25 : decode method_2_code 25 = .ok (.newarray .char, 2) := by decide +kernel
theorem d_method_2_27 : decode method_2_code 27 = .ok (.dup, 1) := by decide +kernel
theorem d_method_2_28 : decode method_2_code 28 = .ok (.iconst 0, 1) := by decide +kernel
theorem d_method_2_29 : decode method_2_code 29 = .ok (.iload_n 1, 1) := by decide +kernel
theorem d_method_2_30 : decode method_2_code 30 = .ok (.castore, 1) := by decide +kernel
theorem ef_rc8_init (m : MethodId) (x0 : Addr) (x1 : Addr) : entryFrame m #[(.ref x0), (.ref x1)] 2 = mkF m 0 #[.val (.ref x0), .val (.ref x1)] [] := by first | (simp [entryFrame, mkF, argsToLocals, Value.category]; done) | rfl
theorem ef_rc9_init (m : MethodId) (x0 : Addr) (x1 : Addr) (x2 : Int32) (x3 : Int32) : entryFrame m #[(.ref x0), (.ref x1), (.int x2), (.int x3), .null] 6 = mkF m 0 #[.val (.ref x0), .val (.ref x1), .val (.int x2), .val (.int x3), .val .null, .unset] [] := by first | (simp [entryFrame, mkF, argsToLocals, Value.category]; done) | rfl
theorem d_jdk_42_method_149_27 : decode jdk_42_method_149_code 27 = .ok (.getstatic 38, 3) := by decide +kernel
theorem d_jdk_42_method_149_30 : decode jdk_42_method_149_code 30 = .ok (.ifCond .eq 28, 3) := by decide +kernel
theorem d_jdk_42_method_149_33 : decode jdk_42_method_149_code 33 = .ok (.aload_n 1, 1) := by decide +kernel
theorem d_jdk_42_method_149_34 : decode jdk_42_method_149_code 34 = .ok (.iload_n 2, 1) := by decide +kernel
theorem d_jdk_42_method_149_35 : decode jdk_42_method_149_code 35 = .ok (.iload_n 3, 1) := by decide +kernel
theorem ef_rc10_compress (m : MethodId) (x0 : Addr) (x1 : Int32) (x2 : Int32) : entryFrame m #[(.ref x0), (.int x1), (.int x2)] 6 = mkF m 0 #[.val (.ref x0), .val (.int x1), .val (.int x2), .unset, .unset, .unset] [] := by first | (simp [entryFrame, mkF, argsToLocals, Value.category]; done) | rfl
theorem d_jdk_52_method_16_0 : decode jdk_52_method_16_code 0 = .ok (.iload_n 2, 1) := by decide +kernel
theorem d_jdk_52_method_16_1 : decode jdk_52_method_16_code 1 = .ok (.newarray .byte, 2) := by decide +kernel
theorem d_jdk_52_method_16_3 : decode jdk_52_method_16_code 3 = .ok (.astore_n 3, 1) := by decide +kernel
theorem d_jdk_52_method_16_4 : decode jdk_52_method_16_code 4 = .ok (.aload_n 0, 1) := by decide +kernel
theorem d_jdk_52_method_16_5 : decode jdk_52_method_16_code 5 = .ok (.iload_n 1, 1) := by decide +kernel
theorem d_jdk_52_method_16_6 : decode jdk_52_method_16_code 6 = .ok (.aload_n 3, 1) := by decide +kernel
theorem d_jdk_52_method_16_7 : decode jdk_52_method_16_code 7 = .ok (.iconst 0, 1) := by decide +kernel
theorem d_jdk_52_method_16_8 : decode jdk_52_method_16_code 8 = .ok (.iload_n 2, 1) := by decide +kernel
theorem ef_rc11_compress (m : MethodId) (x0 : Addr) (x1 : Int32) (x2 : Addr) (x3 : Int32) (x4 : Int32) : entryFrame m #[(.ref x0), (.int x1), (.ref x2), (.int x3), (.int x4)] 7 = mkF m 0 #[.val (.ref x0), .val (.int x1), .val (.ref x2), .val (.int x3), .val (.int x4), .unset, .unset] [] := by first | (simp [entryFrame, mkF, argsToLocals, Value.category]; done) | rfl
theorem d_jdk_52_method_21_0 : decode jdk_52_method_21_code 0 = .ok (.iconst 0, 1) := by decide +kernel
theorem d_jdk_52_method_21_1 : decode jdk_52_method_21_code 1 = .ok (.istore 5, 2) := by decide +kernel
theorem d_jdk_52_method_21_3 : decode jdk_52_method_21_code 3 = .ok (.iload 5, 2) := by decide +kernel
theorem d_jdk_52_method_21_5 : decode jdk_52_method_21_code 5 = .ok (.iload 4, 2) := by decide +kernel
theorem d_jdk_52_method_21_7 : decode jdk_52_method_21_code 7 = .ok (.if_icmp .ge 37, 3) := by decide +kernel
theorem d_jdk_52_method_21_10 : decode jdk_52_method_21_code 10 = .ok (.aload_n 0, 1) := by decide +kernel
theorem d_jdk_52_method_21_11 : decode jdk_52_method_21_code 11 = .ok (.iload_n 1, 1) := by decide +kernel
theorem d_jdk_52_method_21_12 : decode jdk_52_method_21_code 12 = .ok (.caload, 1) := by decide +kernel
theorem d_jdk_52_method_21_13 : decode jdk_52_method_21_code 13 = .ok (.istore 6, 2) := by decide +kernel
theorem d_jdk_52_method_21_15 : decode jdk_52_method_21_code 15 = .ok (.iload 6, 2) := by decide +kernel
theorem d_jdk_52_method_21_17 : decode jdk_52_method_21_code 17 = .ok (.sipush 255, 3) := by decide +kernel
theorem d_jdk_52_method_21_20 : decode jdk_52_method_21_code 20 = .ok (.if_icmp .le 6, 3) := by decide +kernel
theorem d_jdk_52_method_21_23 : decode jdk_52_method_21_code 23 = .ok (.iload 5, 2) := by decide +kernel
theorem d_jdk_52_method_21_25 : decode jdk_52_method_21_code 25 = .ok (.ireturn, 1) := by decide +kernel
theorem pn_3 : plainName "java/lang/StringUTF16" = true := by first | (simp [plainName, overriddenIn]; done) | decide +kernel
theorem pd_5 : parseMethodDescriptor "([CI[BII)I" = some ⟨[(.array .char), .int, (.array .byte), .int, .int], some .int⟩ := by decide +kernel
theorem d_jdk_52_method_16_9 : decode jdk_52_method_16_code 9 = .ok (.invokestatic 115, 3) := by decide +kernel
theorem d_jdk_52_method_16_12 : decode jdk_52_method_16_code 12 = .ok (.istore 4, 2) := by decide +kernel
theorem d_jdk_52_method_16_14 : decode jdk_52_method_16_code 14 = .ok (.iload 4, 2) := by decide +kernel
theorem d_jdk_52_method_16_16 : decode jdk_52_method_16_code 16 = .ok (.iload_n 2, 1) := by decide +kernel
theorem d_jdk_52_method_16_17 : decode jdk_52_method_16_code 17 = .ok (.if_icmp .eq 40, 3) := by decide +kernel
theorem d_jdk_52_method_16_20 : decode jdk_52_method_16_code 20 = .ok (.aload_n 0, 1) := by decide +kernel
theorem d_jdk_52_method_16_21 : decode jdk_52_method_16_code 21 = .ok (.iload_n 1, 1) := by decide +kernel
theorem d_jdk_52_method_16_22 : decode jdk_52_method_16_code 22 = .ok (.iload_n 2, 1) := by decide +kernel
theorem ef_rc12_toBytes (m : MethodId) (x0 : Addr) (x1 : Int32) (x2 : Int32) : entryFrame m #[(.ref x0), (.int x1), (.int x2)] 5 = mkF m 0 #[.val (.ref x0), .val (.int x1), .val (.int x2), .unset, .unset] [] := by first | (simp [entryFrame, mkF, argsToLocals, Value.category]; done) | rfl
theorem d_jdk_52_method_14_0 : decode jdk_52_method_14_code 0 = .ok (.iload_n 2, 1) := by decide +kernel
theorem ef_rc13_newBytesFor (m : MethodId) (x0 : Int32) : entryFrame m #[(.int x0)] 1 = mkF m 0 #[.val (.int x0)] [] := by first | (simp [entryFrame, mkF, argsToLocals, Value.category]; done) | rfl
theorem d_jdk_52_method_2_0 : decode jdk_52_method_2_code 0 = .ok (.iload_n 0, 1) := by decide +kernel
theorem ef_rc14_newBytesLength (m : MethodId) (x0 : Int32) : entryFrame m #[(.int x0)] 1 = mkF m 0 #[.val (.int x0)] [] := by first | (simp [entryFrame, mkF, argsToLocals, Value.category]; done) | rfl
theorem d_jdk_52_method_3_0 : decode jdk_52_method_3_code 0 = .ok (.iload_n 0, 1) := by decide +kernel
theorem d_jdk_52_method_3_1 : decode jdk_52_method_3_code 1 = .ok (.ifCond .ge 11, 3) := by decide +kernel
theorem d_jdk_52_method_3_12 : decode jdk_52_method_3_code 12 = .ok (.iload_n 0, 1) := by decide +kernel
theorem d_jdk_52_method_3_13 : decode jdk_52_method_3_code 13 = .ok (.ldc 20, 2) := by decide +kernel
theorem d_jdk_52_method_3_15 : decode jdk_52_method_3_code 15 = .ok (.if_icmp .lt 40, 3) := by decide +kernel
theorem d_jdk_52_method_3_55 : decode jdk_52_method_3_code 55 = .ok (.iload_n 0, 1) := by decide +kernel
theorem d_jdk_52_method_3_56 : decode jdk_52_method_3_code 56 = .ok (.iconst 1, 1) := by decide +kernel
theorem d_jdk_52_method_3_57 : decode jdk_52_method_3_code 57 = .ok (.ishl, 1) := by decide +kernel
theorem d_jdk_52_method_3_58 : decode jdk_52_method_3_code 58 = .ok (.ireturn, 1) := by decide +kernel
theorem pd_6 : parseMethodDescriptor "(I)I" = some ⟨[.int], some .int⟩ := by decide +kernel
theorem d_jdk_52_method_2_1 : decode jdk_52_method_2_code 1 = .ok (.invokestatic 11, 3) := by decide +kernel
theorem d_jdk_52_method_2_4 : decode jdk_52_method_2_code 4 = .ok (.newarray .byte, 2) := by decide +kernel
theorem d_jdk_52_method_2_6 : decode jdk_52_method_2_code 6 = .ok (.areturn, 1) := by decide +kernel
theorem pd_7 : parseMethodDescriptor "(I)[B" = some ⟨[.int], some (.array .byte)⟩ := by decide +kernel
theorem d_jdk_52_method_14_1 : decode jdk_52_method_14_code 1 = .ok (.invokestatic 107, 3) := by decide +kernel
theorem d_jdk_52_method_14_4 : decode jdk_52_method_14_code 4 = .ok (.astore_n 3, 1) := by decide +kernel
theorem d_jdk_52_method_14_5 : decode jdk_52_method_14_code 5 = .ok (.iconst 0, 1) := by decide +kernel
theorem d_jdk_52_method_14_6 : decode jdk_52_method_14_code 6 = .ok (.istore 4, 2) := by decide +kernel
theorem d_jdk_52_method_14_8 : decode jdk_52_method_14_code 8 = .ok (.iload 4, 2) := by decide +kernel
theorem d_jdk_52_method_14_10 : decode jdk_52_method_14_code 10 = .ok (.iload_n 2, 1) := by decide +kernel
theorem d_jdk_52_method_14_11 : decode jdk_52_method_14_code 11 = .ok (.if_icmp .ge 21, 3) := by decide +kernel
theorem d_jdk_52_method_14_14 : decode jdk_52_method_14_code 14 = .ok (.aload_n 3, 1) := by decide +kernel
theorem d_jdk_52_method_14_15 : decode jdk_52_method_14_code 15 = .ok (.iload 4, 2) := by decide +kernel
theorem d_jdk_52_method_14_17 : decode jdk_52_method_14_code 17 = .ok (.aload_n 0, 1) := by decide +kernel
theorem d_jdk_52_method_14_18 : decode jdk_52_method_14_code 18 = .ok (.iload_n 1, 1) := by decide +kernel
theorem d_jdk_52_method_14_19 : decode jdk_52_method_14_code 19 = .ok (.caload, 1) := by decide +kernel
theorem ef_rc15_putChar (m : MethodId) (x0 : Addr) (x1 : Int32) (x2 : Int32) : entryFrame m #[(.ref x0), (.int x1), (.int x2)] 3 = mkF m 0 #[.val (.ref x0), .val (.int x1), .val (.int x2)] [] := by first | (simp [entryFrame, mkF, argsToLocals, Value.category]; done) | rfl
theorem d_jdk_52_method_4_0 : decode jdk_52_method_4_code 0 = .ok (.getstatic 44, 3) := by decide +kernel
theorem d_jdk_52_method_4_3 : decode jdk_52_method_4_code 3 = .ok (.ifCond .ne 25, 3) := by decide +kernel
theorem d_jdk_52_method_4_28 : decode jdk_52_method_4_code 28 = .ok (.iload_n 1, 1) := by decide +kernel
theorem d_jdk_52_method_4_29 : decode jdk_52_method_4_code 29 = .ok (.iconst 1, 1) := by decide +kernel
theorem d_jdk_52_method_4_30 : decode jdk_52_method_4_code 30 = .ok (.ishl, 1) := by decide +kernel
theorem d_jdk_52_method_4_31 : decode jdk_52_method_4_code 31 = .ok (.istore_n 1, 1) := by decide +kernel
theorem d_jdk_52_method_4_32 : decode jdk_52_method_4_code 32 = .ok (.aload_n 0, 1) := by decide +kernel
theorem d_jdk_52_method_4_33 : decode jdk_52_method_4_code 33 = .ok (.iload_n 1, 1) := by decide +kernel
theorem d_jdk_52_method_4_34 : decode jdk_52_method_4_code 34 = .ok (.iinc 1 1, 3) := by decide +kernel
theorem d_jdk_52_method_4_37 : decode jdk_52_method_4_code 37 = .ok (.iload_n 2, 1) := by decide +kernel
theorem d_jdk_52_method_4_38 : decode jdk_52_method_4_code 38 = .ok (.getstatic 59, 3) := by decide +kernel
theorem d_jdk_52_method_4_41 : decode jdk_52_method_4_code 41 = .ok (.ishr, 1) := by decide +kernel
theorem d_jdk_52_method_4_42 : decode jdk_52_method_4_code 42 = .ok (.i2b, 1) := by decide +kernel
theorem d_jdk_52_method_4_43 : decode jdk_52_method_4_code 43 = .ok (.bastore, 1) := by decide +kernel
theorem d_jdk_52_method_4_44 : decode jdk_52_method_4_code 44 = .ok (.aload_n 0, 1) := by decide +kernel
theorem d_jdk_52_method_4_45 : decode jdk_52_method_4_code 45 = .ok (.iload_n 1, 1) := by decide +kernel
theorem d_jdk_52_method_4_46 : decode jdk_52_method_4_code 46 = .ok (.iload_n 2, 1) := by decide +kernel
theorem d_jdk_52_method_4_47 : decode jdk_52_method_4_code 47 = .ok (.getstatic 63, 3) := by decide +kernel
theorem d_jdk_52_method_4_50 : decode jdk_52_method_4_code 50 = .ok (.ishr, 1) := by decide +kernel
theorem d_jdk_52_method_4_51 : decode jdk_52_method_4_code 51 = .ok (.i2b, 1) := by decide +kernel
theorem d_jdk_52_method_4_52 : decode jdk_52_method_4_code 52 = .ok (.bastore, 1) := by decide +kernel
theorem d_jdk_52_method_4_53 : decode jdk_52_method_4_code 53 = .ok (.return_, 1) := by decide +kernel
theorem pd_8 : parseMethodDescriptor "([BII)V" = some ⟨[(.array .byte), .int, .int], none⟩ := by decide +kernel
theorem d_jdk_52_method_14_20 : decode jdk_52_method_14_code 20 = .ok (.invokestatic 111, 3) := by decide +kernel
theorem d_jdk_52_method_14_23 : decode jdk_52_method_14_code 23 = .ok (.iinc 1 1, 3) := by decide +kernel
theorem d_jdk_52_method_14_26 : decode jdk_52_method_14_code 26 = .ok (.iinc 4 1, 3) := by decide +kernel
theorem d_jdk_52_method_14_29 : decode jdk_52_method_14_code 29 = .ok (.goto (-21), 3) := by decide +kernel
theorem d_jdk_52_method_14_32 : decode jdk_52_method_14_code 32 = .ok (.aload_n 3, 1) := by decide +kernel
theorem d_jdk_52_method_14_33 : decode jdk_52_method_14_code 33 = .ok (.areturn, 1) := by decide +kernel
theorem pd_9 : parseMethodDescriptor "([CII)[B" = some ⟨[(.array .char), .int, .int], some (.array .byte)⟩ := by decide +kernel
theorem d_jdk_52_method_16_23 : decode jdk_52_method_16_code 23 = .ok (.invokestatic 119, 3) := by decide +kernel
theorem d_jdk_52_method_16_26 : decode jdk_52_method_16_code 26 = .ok (.astore 5, 2) := by decide +kernel
theorem d_jdk_52_method_16_28 : decode jdk_52_method_16_code 28 = .ok (.aload 5, 2) := by decide +kernel
theorem d_jdk_52_method_16_30 : decode jdk_52_method_16_code 30 = .ok (.iload 4, 2) := by decide +kernel
theorem ef_rc16_getChar (m : MethodId) (x0 : Addr) (x1 : Int32) : entryFrame m #[(.ref x0), (.int x1)] 2 = mkF m 0 #[.val (.ref x0), .val (.int x1)] [] := by first | (simp [entryFrame, mkF, argsToLocals, Value.category]; done) | rfl
theorem d_jdk_52_method_5_0 : decode jdk_52_method_5_code 0 = .ok (.getstatic 44, 3) := by decide +kernel
theorem d_jdk_52_method_5_3 : decode jdk_52_method_5_code 3 = .ok (.ifCond .ne 25, 3) := by decide +kernel
theorem d_jdk_52_method_5_28 : decode jdk_52_method_5_code 28 = .ok (.iload_n 1, 1) := by decide +kernel
theorem d_jdk_52_method_5_29 : decode jdk_52_method_5_code 29 = .ok (.iconst 1, 1) := by decide +kernel
theorem d_jdk_52_method_5_30 : decode jdk_52_method_5_code 30 = .ok (.ishl, 1) := by decide +kernel
theorem d_jdk_52_method_5_31 : decode jdk_52_method_5_code 31 = .ok (.istore_n 1, 1) := by decide +kernel
theorem d_jdk_52_method_5_32 : decode jdk_52_method_5_code 32 = .ok (.aload_n 0, 1) := by decide +kernel
theorem d_jdk_52_method_5_33 : decode jdk_52_method_5_code 33 = .ok (.iload_n 1, 1) := by decide +kernel
theorem d_jdk_52_method_5_34 : decode jdk_52_method_5_code 34 = .ok (.iinc 1 1, 3) := by decide +kernel
theorem d_jdk_52_method_5_37 : decode jdk_52_method_5_code 37 = .ok (.baload, 1) := by decide +kernel
theorem d_jdk_52_method_5_38 : decode jdk_52_method_5_code 38 = .ok (.sipush 255, 3) := by decide +kernel
theorem d_jdk_52_method_5_41 : decode jdk_52_method_5_code 41 = .ok (.iand, 1) := by decide +kernel
theorem d_jdk_52_method_5_42 : decode jdk_52_method_5_code 42 = .ok (.getstatic 59, 3) := by decide +kernel
theorem d_jdk_52_method_5_45 : decode jdk_52_method_5_code 45 = .ok (.ishl, 1) := by decide +kernel
theorem d_jdk_52_method_5_46 : decode jdk_52_method_5_code 46 = .ok (.aload_n 0, 1) := by decide +kernel
theorem d_jdk_52_method_5_47 : decode jdk_52_method_5_code 47 = .ok (.iload_n 1, 1) := by decide +kernel
theorem d_jdk_52_method_5_48 : decode jdk_52_method_5_code 48 = .ok (.baload, 1) := by decide +kernel
theorem d_jdk_52_method_5_49 : decode jdk_52_method_5_code 49 = .ok (.sipush 255, 3) := by decide +kernel
theorem d_jdk_52_method_5_52 : decode jdk_52_method_5_code 52 = .ok (.iand, 1) := by decide +kernel
theorem d_jdk_52_method_5_53 : decode jdk_52_method_5_code 53 = .ok (.getstatic 63, 3) := by decide +kernel
theorem d_jdk_52_method_5_56 : decode jdk_52_method_5_code 56 = .ok (.ishl, 1) := by decide +kernel
theorem d_jdk_52_method_5_57 : decode jdk_52_method_5_code 57 = .ok (.ior, 1) := by decide +kernel
theorem d_jdk_52_method_5_58 : decode jdk_52_method_5_code 58 = .ok (.i2c, 1) := by decide +kernel
theorem d_jdk_52_method_5_59 : decode jdk_52_method_5_code 59 = .ok (.ireturn, 1) := by decide +kernel
theorem pd_10 : parseMethodDescriptor "([BI)C" = some ⟨[(.array .byte), .int], some .char⟩ := by decide +kernel
theorem d_jdk_52_method_16_32 : decode jdk_52_method_16_code 32 = .ok (.invokestatic 71, 3) := by decide +kernel
theorem d_jdk_52_method_16_35 : decode jdk_52_method_16_code 35 = .ok (.sipush 255, 3) := by decide +kernel
theorem d_jdk_52_method_16_38 : decode jdk_52_method_16_code 38 = .ok (.if_icmp .gt 16, 3) := by decide +kernel
theorem d_jdk_52_method_16_54 : decode jdk_52_method_16_code 54 = .ok (.aload 5, 2) := by decide +kernel
theorem d_jdk_52_method_16_56 : decode jdk_52_method_16_code 56 = .ok (.areturn, 1) := by decide +kernel
theorem d_jdk_42_method_149_36 : decode jdk_42_method_149_code 36 = .ok (.invokestatic 177, 3) := by decide +kernel
theorem d_jdk_42_method_149_39 : decode jdk_42_method_149_code 39 = .ok (.astore 5, 2) := by decide +kernel
theorem d_jdk_42_method_149_41 : decode jdk_42_method_149_code 41 = .ok (.aload_n 0, 1) := by decide +kernel
theorem d_jdk_42_method_149_42 : decode jdk_42_method_149_code 42 = .ok (.aload 5, 2) := by decide +kernel
theorem d_jdk_42_method_149_44 : decode jdk_42_method_149_code 44 = .ok (.iload_n 3, 1) := by decide +kernel
theorem ef_rc17_coderFromArrayLen (m : MethodId) (x0 : Addr) (x1 : Int32) : entryFrame m #[(.ref x0), (.int x1)] 2 = mkF m 0 #[.val (.ref x0), .val (.int x1)] [] := by first | (simp [entryFrame, mkF, argsToLocals, Value.category]; done) | rfl
theorem d_jdk_52_method_15_0 : decode jdk_52_method_15_code 0 = .ok (.iload_n 1, 1) := by decide +kernel
theorem d_jdk_52_method_15_1 : decode jdk_52_method_15_code 1 = .ok (.aload_n 0, 1) := by decide +kernel
theorem d_jdk_52_method_15_2 : decode jdk_52_method_15_code 2 = .ok (.arraylength, 1) := by decide +kernel
theorem d_jdk_52_method_15_3 : decode jdk_52_method_15_code 3 = .ok (.isub, 1) := by decide +kernel
theorem d_jdk_52_method_15_4 : decode jdk_52_method_15_code 4 = .ok (.bipush 31, 2) := by decide +kernel
theorem d_jdk_52_method_15_6 : decode jdk_52_method_15_code 6 = .ok (.iushr, 1) := by decide +kernel
theorem d_jdk_52_method_15_7 : decode jdk_52_method_15_code 7 = .ok (.i2b, 1) := by decide +kernel
theorem d_jdk_52_method_15_8 : decode jdk_52_method_15_code 8 = .ok (.ireturn, 1) := by decide +kernel
theorem pd_11 : parseMethodDescriptor "([BI)B" = some ⟨[(.array .byte), .int], some .byte⟩ := by decide +kernel
theorem d_jdk_42_method_149_45 : decode jdk_42_method_149_code 45 = .ok (.invokestatic 47, 3) := by decide +kernel
theorem d_jdk_42_method_149_48 : decode jdk_42_method_149_code 48 = .ok (.putfield 15, 3) := by decide +kernel
theorem d_jdk_42_method_149_51 : decode jdk_42_method_149_code 51 = .ok (.aload_n 0, 1) := by decide +kernel
theorem d_jdk_42_method_149_52 : decode jdk_42_method_149_code 52 = .ok (.aload 5, 2) := by decide +kernel
theorem d_jdk_42_method_149_54 : decode jdk_42_method_149_code 54 = .ok (.putfield 9, 3) := by decide +kernel
theorem d_jdk_42_method_149_57 : decode jdk_42_method_149_code 57 = .ok (.return_, 1) := by decide +kernel
theorem d_method_2_31 : decode method_2_code 31 = .ok (.invokespecial 9, 3) := by decide +kernel
theorem d_method_2_34 : decode method_2_code 34 = .ok (.areturn, 1) := by decide +kernel
theorem ef_rc18_traceAsked (m : MethodId) (x0 : Addr) : entryFrame m #[(.ref x0)] 1 = mkF m 0 #[.val (.ref x0)] [] := by first | (simp [entryFrame, mkF, argsToLocals, Value.category]; done) | rfl
theorem ef_rc19_isEmpty (m : MethodId) (x0 : Addr) : entryFrame m #[(.ref x0)] 1 = mkF m 0 #[.val (.ref x0)] [] := by first | (simp [entryFrame, mkF, argsToLocals, Value.category]; done) | rfl
theorem d_jdk_42_method_55_12 : decode jdk_42_method_55_code 12 = .ok (.iconst 0, 1) := by decide +kernel
theorem d_prog_17_method_2_11 : decode prog_17_method_2_code 11 = .ok (.aload_n 0, 1) := by decide +kernel
theorem d_prog_17_method_2_12 : decode prog_17_method_2_code 12 = .ok (.ldc 13, 2) := by decide +kernel
theorem ef_rc20_equals (m : MethodId) (x0 : Addr) (x1 : Addr) : entryFrame m #[(.ref x0), (.ref x1)] 3 = mkF m 0 #[.val (.ref x0), .val (.ref x1), .unset] [] := by first | (simp [entryFrame, mkF, argsToLocals, Value.category]; done) | rfl
theorem d_jdk_42_method_66_0 : decode jdk_42_method_66_code 0 = .ok (.aload_n 0, 1) := by decide +kernel
theorem d_jdk_42_method_66_1 : decode jdk_42_method_66_code 1 = .ok (.aload_n 1, 1) := by decide +kernel
theorem d_jdk_42_method_66_2 : decode jdk_42_method_66_code 2 = .ok (.if_acmp .ne 5, 3) := by decide +kernel
theorem d_jdk_42_method_66_7 : decode jdk_42_method_66_code 7 = .ok (.aload_n 1, 1) := by decide +kernel
theorem d_jdk_42_method_66_8 : decode jdk_42_method_66_code 8 = .ok (.instanceof 10, 3) := by decide +kernel
theorem d_jdk_42_method_66_11 : decode jdk_42_method_66_code 11 = .ok (.ifCond .eq 43, 3) := by decide +kernel
theorem d_jdk_42_method_66_14 : decode jdk_42_method_66_code 14 = .ok (.aload_n 1, 1) := by decide +kernel
theorem d_jdk_42_method_66_15 : decode jdk_42_method_66_code 15 = .ok (.checkcast 10, 3) := by decide +kernel
theorem d_jdk_42_method_66_18 : decode jdk_42_method_66_code 18 = .ok (.astore_n 2, 1) := by decide +kernel
theorem d_jdk_42_method_66_19 : decode jdk_42_method_66_code 19 = .ok (.getstatic 38, 3) := by decide +kernel
theorem d_jdk_42_method_66_22 : decode jdk_42_method_66_code 22 = .ok (.ifCond .eq 14, 3) := by decide +kernel
theorem d_jdk_42_method_66_25 : decode jdk_42_method_66_code 25 = .ok (.aload_n 0, 1) := by decide +kernel
theorem d_jdk_42_method_66_26 : decode jdk_42_method_66_code 26 = .ok (.getfield 15, 3) := by decide +kernel
theorem d_jdk_42_method_66_29 : decode jdk_42_method_66_code 29 = .ok (.aload_n 2, 1) := by decide +kernel
theorem d_jdk_42_method_66_30 : decode jdk_42_method_66_code 30 = .ok (.getfield 15, 3) := by decide +kernel
theorem d_jdk_42_method_66_33 : decode jdk_42_method_66_code 33 = .ok (.if_icmp .ne 21, 3) := by decide +kernel
theorem d_jdk_42_method_66_54 : decode jdk_42_method_66_code 54 = .ok (.iconst 0, 1) := by decide +kernel
theorem d_jdk_42_method_66_55 : decode jdk_42_method_66_code 55 = .ok (.ireturn, 1) := by decide +kernel
theorem pd_12 : parseMethodDescriptor "(Ljava/lang/Object;)Z" = some ⟨[(.object "java/lang/Object")], some .boolean⟩ := by decide +kernel
theorem d_prog_17_method_2_14 : decode prog_17_method_2_code 14 = .ok (.invokevirtual 15, 3) := by decide +kernel
theorem d_prog_17_method_2_17 : decode prog_17_method_2_code 17 = .ok (.ifCond .ne 7, 3) := by decide +kernel
theorem d_prog_17_method_2_20 : decode prog_17_method_2_code 20 = .ok (.iconst 1, 1) := by decide +kernel
theorem d_prog_17_method_2_21 : decode prog_17_method_2_code 21 = .ok (.goto 4, 3) := by decide +kernel
theorem ef_rc21_make (m : MethodId) (x0 : Int32) (x1 : Int32) (x2 : Int32) (x3 : Int32) : entryFrame m #[(.int x0), (.int x1), (.int x2), (.int x3)] 4 = mkF m 0 #[.val (.int x0), .val (.int x1), .val (.int x2), .val (.int x3)] [] := by first | (simp [entryFrame, mkF, argsToLocals, Value.category]; done) | rfl
theorem ef_rc22_init (m : MethodId) (x0 : Addr) (x1 : Addr) : entryFrame m #[(.ref x0), (.ref x1)] 2 = mkF m 0 #[.val (.ref x0), .val (.ref x1)] [] := by first | (simp [entryFrame, mkF, argsToLocals, Value.category]; done) | rfl
theorem ef_rc23_init (m : MethodId) (x0 : Addr) (x1 : Addr) (x2 : Int32) (x3 : Int32) : entryFrame m #[(.ref x0), (.ref x1), (.int x2), (.int x3), .null] 6 = mkF m 0 #[.val (.ref x0), .val (.ref x1), .val (.int x2), .val (.int x3), .val .null, .unset] [] := by first | (simp [entryFrame, mkF, argsToLocals, Value.category]; done) | rfl
theorem ef_rc24_compress (m : MethodId) (x0 : Addr) (x1 : Int32) (x2 : Int32) : entryFrame m #[(.ref x0), (.int x1), (.int x2)] 6 = mkF m 0 #[.val (.ref x0), .val (.int x1), .val (.int x2), .unset, .unset, .unset] [] := by first | (simp [entryFrame, mkF, argsToLocals, Value.category]; done) | rfl
theorem ef_rc25_compress (m : MethodId) (x0 : Addr) (x1 : Int32) (x2 : Addr) (x3 : Int32) (x4 : Int32) : entryFrame m #[(.ref x0), (.int x1), (.ref x2), (.int x3), (.int x4)] 7 = mkF m 0 #[.val (.ref x0), .val (.int x1), .val (.ref x2), .val (.int x3), .val (.int x4), .unset, .unset] [] := by first | (simp [entryFrame, mkF, argsToLocals, Value.category]; done) | rfl
theorem d_jdk_52_method_21_26 : decode jdk_52_method_21_code 26 = .ok (.aload_n 2, 1) := by decide +kernel
theorem d_jdk_52_method_21_27 : decode jdk_52_method_21_code 27 = .ok (.iload_n 3, 1) := by decide +kernel
theorem d_jdk_52_method_21_28 : decode jdk_52_method_21_code 28 = .ok (.iload 6, 2) := by decide +kernel
theorem d_jdk_52_method_21_30 : decode jdk_52_method_21_code 30 = .ok (.i2b, 1) := by decide +kernel
theorem d_jdk_52_method_21_31 : decode jdk_52_method_21_code 31 = .ok (.bastore, 1) := by decide +kernel
theorem d_jdk_52_method_21_32 : decode jdk_52_method_21_code 32 = .ok (.iinc 1 1, 3) := by decide +kernel
theorem d_jdk_52_method_21_35 : decode jdk_52_method_21_code 35 = .ok (.iinc 3 1, 3) := by decide +kernel
theorem d_jdk_52_method_21_38 : decode jdk_52_method_21_code 38 = .ok (.iinc 5 1, 3) := by decide +kernel
theorem d_jdk_52_method_21_41 : decode jdk_52_method_21_code 41 = .ok (.goto (-38), 3) := by decide +kernel
theorem d_jdk_52_method_21_44 : decode jdk_52_method_21_code 44 = .ok (.iload 4, 2) := by decide +kernel
theorem d_jdk_52_method_21_46 : decode jdk_52_method_21_code 46 = .ok (.ireturn, 1) := by decide +kernel
theorem d_jdk_52_method_16_57 : decode jdk_52_method_16_code 57 = .ok (.aload_n 3, 1) := by decide +kernel
theorem d_jdk_52_method_16_58 : decode jdk_52_method_16_code 58 = .ok (.areturn, 1) := by decide +kernel
theorem ef_rc26_coderFromArrayLen (m : MethodId) (x0 : Addr) (x1 : Int32) : entryFrame m #[(.ref x0), (.int x1)] 2 = mkF m 0 #[.val (.ref x0), .val (.int x1)] [] := by first | (simp [entryFrame, mkF, argsToLocals, Value.category]; done) | rfl
theorem ef_rc27_traceAsked (m : MethodId) (x0 : Addr) : entryFrame m #[(.ref x0)] 1 = mkF m 0 #[.val (.ref x0)] [] := by first | (simp [entryFrame, mkF, argsToLocals, Value.category]; done) | rfl
theorem ef_rc28_isEmpty (m : MethodId) (x0 : Addr) : entryFrame m #[(.ref x0)] 1 = mkF m 0 #[.val (.ref x0)] [] := by first | (simp [entryFrame, mkF, argsToLocals, Value.category]; done) | rfl
theorem ef_rc29_equals (m : MethodId) (x0 : Addr) (x1 : Addr) : entryFrame m #[(.ref x0), (.ref x1)] 3 = mkF m 0 #[.val (.ref x0), .val (.ref x1), .unset] [] := by first | (simp [entryFrame, mkF, argsToLocals, Value.category]; done) | rfl
theorem d_jdk_42_method_66_36 : decode jdk_42_method_66_code 36 = .ok (.aload_n 0, 1) := by decide +kernel
theorem d_jdk_42_method_66_37 : decode jdk_42_method_66_code 37 = .ok (.getfield 9, 3) := by decide +kernel
theorem d_jdk_42_method_66_40 : decode jdk_42_method_66_code 40 = .ok (.aload_n 2, 1) := by decide +kernel
theorem d_jdk_42_method_66_41 : decode jdk_42_method_66_code 41 = .ok (.getfield 9, 3) := by decide +kernel
theorem ef_rc30_equals (m : MethodId) (x0 : Addr) (x1 : Addr) : entryFrame m #[(.ref x0), (.ref x1)] 3 = mkF m 0 #[.val (.ref x0), .val (.ref x1), .unset] [] := by first | (simp [entryFrame, mkF, argsToLocals, Value.category]; done) | rfl
theorem d_jdk_43_method_13_0 : decode jdk_43_method_13_code 0 = .ok (.aload_n 0, 1) := by decide +kernel
theorem d_jdk_43_method_13_1 : decode jdk_43_method_13_code 1 = .ok (.arraylength, 1) := by decide +kernel
theorem d_jdk_43_method_13_2 : decode jdk_43_method_13_code 2 = .ok (.aload_n 1, 1) := by decide +kernel
theorem d_jdk_43_method_13_3 : decode jdk_43_method_13_code 3 = .ok (.arraylength, 1) := by decide +kernel
theorem d_jdk_43_method_13_4 : decode jdk_43_method_13_code 4 = .ok (.if_icmp .ne 30, 3) := by decide +kernel
theorem d_jdk_43_method_13_7 : decode jdk_43_method_13_code 7 = .ok (.iconst 0, 1) := by decide +kernel
theorem d_jdk_43_method_13_8 : decode jdk_43_method_13_code 8 = .ok (.istore_n 2, 1) := by decide +kernel
theorem d_jdk_43_method_13_9 : decode jdk_43_method_13_code 9 = .ok (.iload_n 2, 1) := by decide +kernel
theorem d_jdk_43_method_13_10 : decode jdk_43_method_13_code 10 = .ok (.aload_n 0, 1) := by decide +kernel
theorem d_jdk_43_method_13_11 : decode jdk_43_method_13_code 11 = .ok (.arraylength, 1) := by decide +kernel
theorem d_jdk_43_method_13_12 : decode jdk_43_method_13_code 12 = .ok (.if_icmp .ge 20, 3) := by decide +kernel
theorem d_jdk_43_method_13_15 : decode jdk_43_method_13_code 15 = .ok (.aload_n 0, 1) := by decide +kernel
theorem d_jdk_43_method_13_16 : decode jdk_43_method_13_code 16 = .ok (.iload_n 2, 1) := by decide +kernel
theorem d_jdk_43_method_13_17 : decode jdk_43_method_13_code 17 = .ok (.baload, 1) := by decide +kernel
theorem d_jdk_43_method_13_18 : decode jdk_43_method_13_code 18 = .ok (.aload_n 1, 1) := by decide +kernel
theorem d_jdk_43_method_13_19 : decode jdk_43_method_13_code 19 = .ok (.iload_n 2, 1) := by decide +kernel
theorem d_jdk_43_method_13_20 : decode jdk_43_method_13_code 20 = .ok (.baload, 1) := by decide +kernel
theorem d_jdk_43_method_13_21 : decode jdk_43_method_13_code 21 = .ok (.if_icmp .eq 5, 3) := by decide +kernel
theorem d_jdk_43_method_13_26 : decode jdk_43_method_13_code 26 = .ok (.iinc 2 1, 3) := by decide +kernel
theorem d_jdk_43_method_13_29 : decode jdk_43_method_13_code 29 = .ok (.goto (-20), 3) := by decide +kernel
theorem d_jdk_43_method_13_32 : decode jdk_43_method_13_code 32 = .ok (.iconst 1, 1) := by decide +kernel
theorem d_jdk_43_method_13_33 : decode jdk_43_method_13_code 33 = .ok (.ireturn, 1) := by decide +kernel
theorem pn_4 : plainName "java/lang/StringLatin1" = true := by first | (simp [plainName, overriddenIn]; done) | decide +kernel
theorem pd_13 : parseMethodDescriptor "([B[B)Z" = some ⟨[(.array .byte), (.array .byte)], some .boolean⟩ := by decide +kernel
theorem d_jdk_42_method_66_44 : decode jdk_42_method_66_code 44 = .ok (.invokestatic 541, 3) := by decide +kernel
theorem d_jdk_42_method_66_47 : decode jdk_42_method_66_code 47 = .ok (.ifCond .eq 7, 3) := by decide +kernel
theorem d_jdk_42_method_66_50 : decode jdk_42_method_66_code 50 = .ok (.iconst 1, 1) := by decide +kernel
theorem d_jdk_42_method_66_51 : decode jdk_42_method_66_code 51 = .ok (.goto 4, 3) := by decide +kernel
theorem ef_rc31_traceAsked (m : MethodId) (x0 : Addr) : entryFrame m #[(.ref x0)] 1 = mkF m 0 #[.val (.ref x0)] [] := by first | (simp [entryFrame, mkF, argsToLocals, Value.category]; done) | rfl
theorem ef_rc32_equals (m : MethodId) (x0 : Addr) (x1 : Addr) : entryFrame m #[(.ref x0), (.ref x1)] 3 = mkF m 0 #[.val (.ref x0), .val (.ref x1), .unset] [] := by first | (simp [entryFrame, mkF, argsToLocals, Value.category]; done) | rfl
theorem ef_rc33_equals (m : MethodId) (x0 : Addr) (x1 : Addr) : entryFrame m #[(.ref x0), (.ref x1)] 3 = mkF m 0 #[.val (.ref x0), .val (.ref x1), .unset] [] := by first | (simp [entryFrame, mkF, argsToLocals, Value.category]; done) | rfl
theorem d_jdk_43_method_13_24 : decode jdk_43_method_13_code 24 = .ok (.iconst 0, 1) := by decide +kernel
theorem d_jdk_43_method_13_25 : decode jdk_43_method_13_code 25 = .ok (.ireturn, 1) := by decide +kernel
theorem ef_rc34_make (m : MethodId) (x0 : Int32) (x1 : Int32) (x2 : Int32) (x3 : Int32) : entryFrame m #[(.int x0), (.int x1), (.int x2), (.int x3)] 4 = mkF m 0 #[.val (.int x0), .val (.int x1), .val (.int x2), .val (.int x3)] [] := by first | (simp [entryFrame, mkF, argsToLocals, Value.category]; done) | rfl
theorem d_method_2_35 : decode method_2_code 35 = .ok (.iload_n 0, 1) := by decide +kernel
theorem d_method_2_36 : decode method_2_code 36 = .ok (.iconst 2, 1) := by decide +kernel
theorem d_method_2_37 : decode method_2_code 37 = .ok (.if_icmp .ne 22, 3) := by decide +kernel
theorem d_method_2_40 : decode method_2_code 40 = .ok (.new 7, 3) := by decide +kernel
theorem d_method_2_43 : decode method_2_code 43 = .ok (.dup, 1) := by decide +kernel
theorem d_method_2_44 : decode method_2_code 44 = .ok (.iconst 2, 1) := by decide +kernel
theorem d_method_2_45 : decode method_2_code 45 = .ok (.newarray .char, 2) := by decide +kernel
theorem d_method_2_47 : decode method_2_code 47 = .ok (.dup, 1) := by decide +kernel
theorem d_method_2_48 : decode method_2_code 48 = .ok (.iconst 0, 1) := by decide +kernel
theorem d_method_2_49 : decode method_2_code 49 = .ok (.iload_n 1, 1) := by decide +kernel
theorem d_method_2_50 : decode method_2_code 50 = .ok (.castore, 1) := by decide +kernel
theorem d_method_2_51 : decode method_2_code 51 = .ok (.dup, 1) := by decide +kernel
theorem d_method_2_52 : decode method_2_code 52 = .ok (.iconst 1, 1) := by decide +kernel
theorem d_method_2_53 : decode method_2_code 53 = .ok (.iload_n 2, 1) := by decide +kernel
theorem d_method_2_54 : decode method_2_code 54 = .ok (.castore, 1) := by decide +kernel
theorem ef_rc35_init (m : MethodId) (x0 : Addr) (x1 : Addr) : entryFrame m #[(.ref x0), (.ref x1)] 2 = mkF m 0 #[.val (.ref x0), .val (.ref x1)] [] := by first | (simp [entryFrame, mkF, argsToLocals, Value.category]; done) | rfl
theorem ef_rc36_init (m : MethodId) (x0 : Addr) (x1 : Addr) (x2 : Int32) (x3 : Int32) : entryFrame m #[(.ref x0), (.ref x1), (.int x2), (.int x3), .null] 6 = mkF m 0 #[.val (.ref x0), .val (.ref x1), .val (.int x2), .val (.int x3), .val .null, .unset] [] := by first | (simp [entryFrame, mkF, argsToLocals, Value.category]; done) | rfl
theorem ef_rc37_compress (m : MethodId) (x0 : Addr) (x1 : Int32) (x2 : Int32) : entryFrame m #[(.ref x0), (.int x1), (.int x2)] 6 = mkF m 0 #[.val (.ref x0), .val (.int x1), .val (.int x2), .unset, .unset, .unset] [] := by first | (simp [entryFrame, mkF, argsToLocals, Value.category]; done) | rfl
theorem ef_rc38_compress (m : MethodId) (x0 : Addr) (x1 : Int32) (x2 : Addr) (x3 : Int32) (x4 : Int32) : entryFrame m #[(.ref x0), (.int x1), (.ref x2), (.int x3), (.int x4)] 7 = mkF m 0 #[.val (.ref x0), .val (.int x1), .val (.ref x2), .val (.int x3), .val (.int x4), .unset, .unset] [] := by first | (simp [entryFrame, mkF, argsToLocals, Value.category]; done) | rfl
theorem ef_rc39_toBytes (m : MethodId) (x0 : Addr) (x1 : Int32) (x2 : Int32) : entryFrame m #[(.ref x0), (.int x1), (.int x2)] 5 = mkF m 0 #[.val (.ref x0), .val (.int x1), .val (.int x2), .unset, .unset] [] := by first | (simp [entryFrame, mkF, argsToLocals, Value.category]; done) | rfl
theorem ef_rc40_newBytesFor (m : MethodId) (x0 : Int32) : entryFrame m #[(.int x0)] 1 = mkF m 0 #[.val (.int x0)] [] := by first | (simp [entryFrame, mkF, argsToLocals, Value.category]; done) | rfl
theorem ef_rc41_newBytesLength (m : MethodId) (x0 : Int32) : entryFrame m #[(.int x0)] 1 = mkF m 0 #[.val (.int x0)] [] := by first | (simp [entryFrame, mkF, argsToLocals, Value.category]; done) | rfl
theorem ef_rc42_putChar (m : MethodId) (x0 : Addr) (x1 : Int32) (x2 : Int32) : entryFrame m #[(.ref x0), (.int x1), (.int x2)] 3 = mkF m 0 #[.val (.ref x0), .val (.int x1), .val (.int x2)] [] := by first | (simp [entryFrame, mkF, argsToLocals, Value.category]; done) | rfl
theorem ef_rc43_putChar (m : MethodId) (x0 : Addr) (x1 : Int32) (x2 : Int32) : entryFrame m #[(.ref x0), (.int x1), (.int x2)] 3 = mkF m 0 #[.val (.ref x0), .val (.int x1), .val (.int x2)] [] := by first | (simp [entryFrame, mkF, argsToLocals, Value.category]; done) | rfl
theorem ef_rc44_getChar (m : MethodId) (x0 : Addr) (x1 : Int32) : entryFrame m #[(.ref x0), (.int x1)] 2 = mkF m 0 #[.val (.ref x0), .val (.int x1)] [] := by first | (simp [entryFrame, mkF, argsToLocals, Value.category]; done) | rfl
theorem ef_rc45_coderFromArrayLen (m : MethodId) (x0 : Addr) (x1 : Int32) : entryFrame m #[(.ref x0), (.int x1)] 2 = mkF m 0 #[.val (.ref x0), .val (.int x1)] [] := by first | (simp [entryFrame, mkF, argsToLocals, Value.category]; done) | rfl
theorem d_method_2_55 : decode method_2_code 55 = .ok (.invokespecial 9, 3) := by decide +kernel
theorem d_method_2_58 : decode method_2_code 58 = .ok (.areturn, 1) := by decide +kernel
theorem ef_rc46_traceAsked (m : MethodId) (x0 : Addr) : entryFrame m #[(.ref x0)] 1 = mkF m 0 #[.val (.ref x0)] [] := by first | (simp [entryFrame, mkF, argsToLocals, Value.category]; done) | rfl
theorem ef_rc47_isEmpty (m : MethodId) (x0 : Addr) : entryFrame m #[(.ref x0)] 1 = mkF m 0 #[.val (.ref x0)] [] := by first | (simp [entryFrame, mkF, argsToLocals, Value.category]; done) | rfl
theorem ef_rc48_make (m : MethodId) (x0 : Int32) (x1 : Int32) (x2 : Int32) (x3 : Int32) : entryFrame m #[(.int x0), (.int x1), (.int x2), (.int x3)] 4 = mkF m 0 #[.val (.int x0), .val (.int x1), .val (.int x2), .val (.int x3)] [] := by first | (simp [entryFrame, mkF, argsToLocals, Value.category]; done) | rfl
theorem ef_rc49_init (m : MethodId) (x0 : Addr) (x1 : Addr) : entryFrame m #[(.ref x0), (.ref x1)] 2 = mkF m 0 #[.val (.ref x0), .val (.ref x1)] [] := by first | (simp [entryFrame, mkF, argsToLocals, Value.category]; done) | rfl
theorem ef_rc50_init (m : MethodId) (x0 : Addr) (x1 : Addr) (x2 : Int32) (x3 : Int32) : entryFrame m #[(.ref x0), (.ref x1), (.int x2), (.int x3), .null] 6 = mkF m 0 #[.val (.ref x0), .val (.ref x1), .val (.int x2), .val (.int x3), .val .null, .unset] [] := by first | (simp [entryFrame, mkF, argsToLocals, Value.category]; done) | rfl
theorem ef_rc51_compress (m : MethodId) (x0 : Addr) (x1 : Int32) (x2 : Int32) : entryFrame m #[(.ref x0), (.int x1), (.int x2)] 6 = mkF m 0 #[.val (.ref x0), .val (.int x1), .val (.int x2), .unset, .unset, .unset] [] := by first | (simp [entryFrame, mkF, argsToLocals, Value.category]; done) | rfl
theorem ef_rc52_compress (m : MethodId) (x0 : Addr) (x1 : Int32) (x2 : Addr) (x3 : Int32) (x4 : Int32) : entryFrame m #[(.ref x0), (.int x1), (.ref x2), (.int x3), (.int x4)] 7 = mkF m 0 #[.val (.ref x0), .val (.int x1), .val (.ref x2), .val (.int x3), .val (.int x4), .unset, .unset] [] := by first | (simp [entryFrame, mkF, argsToLocals, Value.category]; done) | rfl
theorem ef_rc53_getChar (m : MethodId) (x0 : Addr) (x1 : Int32) : entryFrame m #[(.ref x0), (.int x1)] 2 = mkF m 0 #[.val (.ref x0), .val (.int x1)] [] := by first | (simp [entryFrame, mkF, argsToLocals, Value.category]; done) | rfl
theorem ef_rc54_make (m : MethodId) (x0 : Int32) (x1 : Int32) (x2 : Int32) (x3 : Int32) : entryFrame m #[(.int x0), (.int x1), (.int x2), (.int x3)] 4 = mkF m 0 #[.val (.int x0), .val (.int x1), .val (.int x2), .val (.int x3)] [] := by first | (simp [entryFrame, mkF, argsToLocals, Value.category]; done) | rfl
theorem ef_rc55_init (m : MethodId) (x0 : Addr) (x1 : Addr) : entryFrame m #[(.ref x0), (.ref x1)] 2 = mkF m 0 #[.val (.ref x0), .val (.ref x1)] [] := by first | (simp [entryFrame, mkF, argsToLocals, Value.category]; done) | rfl
theorem ef_rc56_init (m : MethodId) (x0 : Addr) (x1 : Addr) (x2 : Int32) (x3 : Int32) : entryFrame m #[(.ref x0), (.ref x1), (.int x2), (.int x3), .null] 6 = mkF m 0 #[.val (.ref x0), .val (.ref x1), .val (.int x2), .val (.int x3), .val .null, .unset] [] := by first | (simp [entryFrame, mkF, argsToLocals, Value.category]; done) | rfl
theorem ef_rc57_compress (m : MethodId) (x0 : Addr) (x1 : Int32) (x2 : Int32) : entryFrame m #[(.ref x0), (.int x1), (.int x2)] 6 = mkF m 0 #[.val (.ref x0), .val (.int x1), .val (.int x2), .unset, .unset, .unset] [] := by first | (simp [entryFrame, mkF, argsToLocals, Value.category]; done) | rfl
theorem ef_rc58_compress (m : MethodId) (x0 : Addr) (x1 : Int32) (x2 : Addr) (x3 : Int32) (x4 : Int32) : entryFrame m #[(.ref x0), (.int x1), (.ref x2), (.int x3), (.int x4)] 7 = mkF m 0 #[.val (.ref x0), .val (.int x1), .val (.ref x2), .val (.int x3), .val (.int x4), .unset, .unset] [] := by first | (simp [entryFrame, mkF, argsToLocals, Value.category]; done) | rfl
theorem ef_rc59_coderFromArrayLen (m : MethodId) (x0 : Addr) (x1 : Int32) : entryFrame m #[(.ref x0), (.int x1)] 2 = mkF m 0 #[.val (.ref x0), .val (.int x1)] [] := by first | (simp [entryFrame, mkF, argsToLocals, Value.category]; done) | rfl
theorem ef_rc60_traceAsked (m : MethodId) (x0 : Addr) : entryFrame m #[(.ref x0)] 1 = mkF m 0 #[.val (.ref x0)] [] := by first | (simp [entryFrame, mkF, argsToLocals, Value.category]; done) | rfl
theorem ef_rc61_equals (m : MethodId) (x0 : Addr) (x1 : Addr) : entryFrame m #[(.ref x0), (.ref x1)] 3 = mkF m 0 #[.val (.ref x0), .val (.ref x1), .unset] [] := by first | (simp [entryFrame, mkF, argsToLocals, Value.category]; done) | rfl
theorem ef_rc62_equals (m : MethodId) (x0 : Addr) (x1 : Addr) : entryFrame m #[(.ref x0), (.ref x1)] 3 = mkF m 0 #[.val (.ref x0), .val (.ref x1), .unset] [] := by first | (simp [entryFrame, mkF, argsToLocals, Value.category]; done) | rfl
theorem d_jdk_43_method_13_34 : decode jdk_43_method_13_code 34 = .ok (.iconst 0, 1) := by decide +kernel
theorem d_jdk_43_method_13_35 : decode jdk_43_method_13_code 35 = .ok (.ireturn, 1) := by decide +kernel
theorem ef_rc63_make (m : MethodId) (x0 : Int32) (x1 : Int32) (x2 : Int32) (x3 : Int32) : entryFrame m #[(.int x0), (.int x1), (.int x2), (.int x3)] 4 = mkF m 0 #[.val (.int x0), .val (.int x1), .val (.int x2), .val (.int x3)] [] := by first | (simp [entryFrame, mkF, argsToLocals, Value.category]; done) | rfl
theorem d_method_2_59 : decode method_2_code 59 = .ok (.new 7, 3) := by decide +kernel
theorem d_method_2_62 : decode method_2_code 62 = .ok (.dup, 1) := by decide +kernel
theorem d_method_2_63 : decode method_2_code 63 = .ok (.iconst 3, 1) := by decide +kernel
theorem d_method_2_64 : decode method_2_code 64 = .ok (.newarray .char, 2) := by decide +kernel
theorem d_method_2_66 : decode method_2_code 66 = .ok (.dup, 1) := by decide +kernel
theorem d_method_2_67 : decode method_2_code 67 = .ok (.iconst 0, 1) := by decide +kernel
theorem d_method_2_68 : decode method_2_code 68 = .ok (.iload_n 1, 1) := by decide +kernel
theorem d_method_2_69 : decode method_2_code 69 = .ok (.castore, 1) := by decide +kernel
theorem d_method_2_70 : decode method_2_code 70 = .ok (.dup, 1) := by decide +kernel
theorem d_method_2_71 : decode method_2_code 71 = .ok (.iconst 1, 1) := by decide +kernel
theorem d_method_2_72 : decode method_2_code 72 = .ok (.iload_n 2, 1) := by decide +kernel
theorem d_method_2_73 : decode method_2_code 73 = .ok (.castore, 1) := by decide +kernel
theorem d_method_2_74 : decode method_2_code 74 = .ok (.dup, 1) := by decide +kernel
theorem d_method_2_75 : decode method_2_code 75 = .ok (.iconst 2, 1) := by decide +kernel
theorem d_method_2_76 : decode method_2_code 76 = .ok (.iload_n 3, 1) := by decide +kernel
theorem d_method_2_77 : decode method_2_code 77 = .ok (.castore, 1) := by decide +kernel
theorem ef_rc64_init (m : MethodId) (x0 : Addr) (x1 : Addr) : entryFrame m #[(.ref x0), (.ref x1)] 2 = mkF m 0 #[.val (.ref x0), .val (.ref x1)] [] := by first | (simp [entryFrame, mkF, argsToLocals, Value.category]; done) | rfl
theorem ef_rc65_init (m : MethodId) (x0 : Addr) (x1 : Addr) (x2 : Int32) (x3 : Int32) : entryFrame m #[(.ref x0), (.ref x1), (.int x2), (.int x3), .null] 6 = mkF m 0 #[.val (.ref x0), .val (.ref x1), .val (.int x2), .val (.int x3), .val .null, .unset] [] := by first | (simp [entryFrame, mkF, argsToLocals, Value.category]; done) | rfl
theorem ef_rc66_compress (m : MethodId) (x0 : Addr) (x1 : Int32) (x2 : Int32) : entryFrame m #[(.ref x0), (.int x1), (.int x2)] 6 = mkF m 0 #[.val (.ref x0), .val (.int x1), .val (.int x2), .unset, .unset, .unset] [] := by first | (simp [entryFrame, mkF, argsToLocals, Value.category]; done) | rfl
theorem ef_rc67_compress (m : MethodId) (x0 : Addr) (x1 : Int32) (x2 : Addr) (x3 : Int32) (x4 : Int32) : entryFrame m #[(.ref x0), (.int x1), (.ref x2), (.int x3), (.int x4)] 7 = mkF m 0 #[.val (.ref x0), .val (.int x1), .val (.ref x2), .val (.int x3), .val (.int x4), .unset, .unset] [] := by first | (simp [entryFrame, mkF, argsToLocals, Value.category]; done) | rfl
theorem ef_rc68_toBytes (m : MethodId) (x0 : Addr) (x1 : Int32) (x2 : Int32) : entryFrame m #[(.ref x0), (.int x1), (.int x2)] 5 = mkF m 0 #[.val (.ref x0), .val (.int x1), .val (.int x2), .unset, .unset] [] := by first | (simp [entryFrame, mkF, argsToLocals, Value.category]; done) | rfl
theorem ef_rc69_newBytesFor (m : MethodId) (x0 : Int32) : entryFrame m #[(.int x0)] 1 = mkF m 0 #[.val (.int x0)] [] := by first | (simp [entryFrame, mkF, argsToLocals, Value.category]; done) | rfl
theorem ef_rc70_newBytesLength (m : MethodId) (x0 : Int32) : entryFrame m #[(.int x0)] 1 = mkF m 0 #[.val (.int x0)] [] := by first | (simp [entryFrame, mkF, argsToLocals, Value.category]; done) | rfl
theorem ef_rc71_putChar (m : MethodId) (x0 : Addr) (x1 : Int32) (x2 : Int32) : entryFrame m #[(.ref x0), (.int x1), (.int x2)] 3 = mkF m 0 #[.val (.ref x0), .val (.int x1), .val (.int x2)] [] := by first | (simp [entryFrame, mkF, argsToLocals, Value.category]; done) | rfl
theorem ef_rc72_putChar (m : MethodId) (x0 : Addr) (x1 : Int32) (x2 : Int32) : entryFrame m #[(.ref x0), (.int x1), (.int x2)] 3 = mkF m 0 #[.val (.ref x0), .val (.int x1), .val (.int x2)] [] := by first | (simp [entryFrame, mkF, argsToLocals, Value.category]; done) | rfl
theorem ef_rc73_putChar (m : MethodId) (x0 : Addr) (x1 : Int32) (x2 : Int32) : entryFrame m #[(.ref x0), (.int x1), (.int x2)] 3 = mkF m 0 #[.val (.ref x0), .val (.int x1), .val (.int x2)] [] := by first | (simp [entryFrame, mkF, argsToLocals, Value.category]; done) | rfl
theorem ef_rc74_getChar (m : MethodId) (x0 : Addr) (x1 : Int32) : entryFrame m #[(.ref x0), (.int x1)] 2 = mkF m 0 #[.val (.ref x0), .val (.int x1)] [] := by first | (simp [entryFrame, mkF, argsToLocals, Value.category]; done) | rfl
theorem ef_rc75_coderFromArrayLen (m : MethodId) (x0 : Addr) (x1 : Int32) : entryFrame m #[(.ref x0), (.int x1)] 2 = mkF m 0 #[.val (.ref x0), .val (.int x1)] [] := by first | (simp [entryFrame, mkF, argsToLocals, Value.category]; done) | rfl
theorem d_method_2_78 : decode method_2_code 78 = .ok (.invokespecial 9, 3) := by decide +kernel
theorem d_method_2_81 : decode method_2_code 81 = .ok (.areturn, 1) := by decide +kernel
theorem ef_rc76_traceAsked (m : MethodId) (x0 : Addr) : entryFrame m #[(.ref x0)] 1 = mkF m 0 #[.val (.ref x0)] [] := by first | (simp [entryFrame, mkF, argsToLocals, Value.category]; done) | rfl
theorem ef_rc77_isEmpty (m : MethodId) (x0 : Addr) : entryFrame m #[(.ref x0)] 1 = mkF m 0 #[.val (.ref x0)] [] := by first | (simp [entryFrame, mkF, argsToLocals, Value.category]; done) | rfl
theorem ef_rc78_make (m : MethodId) (x0 : Int32) (x1 : Int32) (x2 : Int32) (x3 : Int32) : entryFrame m #[(.int x0), (.int x1), (.int x2), (.int x3)] 4 = mkF m 0 #[.val (.int x0), .val (.int x1), .val (.int x2), .val (.int x3)] [] := by first | (simp [entryFrame, mkF, argsToLocals, Value.category]; done) | rfl
theorem ef_rc79_init (m : MethodId) (x0 : Addr) (x1 : Addr) : entryFrame m #[(.ref x0), (.ref x1)] 2 = mkF m 0 #[.val (.ref x0), .val (.ref x1)] [] := by first | (simp [entryFrame, mkF, argsToLocals, Value.category]; done) | rfl
theorem ef_rc80_init (m : MethodId) (x0 : Addr) (x1 : Addr) (x2 : Int32) (x3 : Int32) : entryFrame m #[(.ref x0), (.ref x1), (.int x2), (.int x3), .null] 6 = mkF m 0 #[.val (.ref x0), .val (.ref x1), .val (.int x2), .val (.int x3), .val .null, .unset] [] := by first | (simp [entryFrame, mkF, argsToLocals, Value.category]; done) | rfl
theorem ef_rc81_compress (m : MethodId) (x0 : Addr) (x1 : Int32) (x2 : Int32) : entryFrame m #[(.ref x0), (.int x1), (.int x2)] 6 = mkF m 0 #[.val (.ref x0), .val (.int x1), .val (.int x2), .unset, .unset, .unset] [] := by first | (simp [entryFrame, mkF, argsToLocals, Value.category]; done) | rfl
theorem ef_rc82_compress (m : MethodId) (x0 : Addr) (x1 : Int32) (x2 : Addr) (x3 : Int32) (x4 : Int32) : entryFrame m #[(.ref x0), (.int x1), (.ref x2), (.int x3), (.int x4)] 7 = mkF m 0 #[.val (.ref x0), .val (.int x1), .val (.ref x2), .val (.int x3), .val (.int x4), .unset, .unset] [] := by first | (simp [entryFrame, mkF, argsToLocals, Value.category]; done) | rfl
theorem ef_rc83_getChar (m : MethodId) (x0 : Addr) (x1 : Int32) : entryFrame m #[(.ref x0), (.int x1)] 2 = mkF m 0 #[.val (.ref x0), .val (.int x1)] [] := by first | (simp [entryFrame, mkF, argsToLocals, Value.category]; done) | rfl
theorem ef_rc84_make (m : MethodId) (x0 : Int32) (x1 : Int32) (x2 : Int32) (x3 : Int32) : entryFrame m #[(.int x0), (.int x1), (.int x2), (.int x3)] 4 = mkF m 0 #[.val (.int x0), .val (.int x1), .val (.int x2), .val (.int x3)] [] := by first | (simp [entryFrame, mkF, argsToLocals, Value.category]; done) | rfl
theorem ef_rc85_init (m : MethodId) (x0 : Addr) (x1 : Addr) : entryFrame m #[(.ref x0), (.ref x1)] 2 = mkF m 0 #[.val (.ref x0), .val (.ref x1)] [] := by first | (simp [entryFrame, mkF, argsToLocals, Value.category]; done) | rfl
theorem ef_rc86_init (m : MethodId) (x0 : Addr) (x1 : Addr) (x2 : Int32) (x3 : Int32) : entryFrame m #[(.ref x0), (.ref x1), (.int x2), (.int x3), .null] 6 = mkF m 0 #[.val (.ref x0), .val (.ref x1), .val (.int x2), .val (.int x3), .val .null, .unset] [] := by first | (simp [entryFrame, mkF, argsToLocals, Value.category]; done) | rfl
theorem ef_rc87_compress (m : MethodId) (x0 : Addr) (x1 : Int32) (x2 : Int32) : entryFrame m #[(.ref x0), (.int x1), (.int x2)] 6 = mkF m 0 #[.val (.ref x0), .val (.int x1), .val (.int x2), .unset, .unset, .unset] [] := by first | (simp [entryFrame, mkF, argsToLocals, Value.category]; done) | rfl
theorem ef_rc88_compress (m : MethodId) (x0 : Addr) (x1 : Int32) (x2 : Addr) (x3 : Int32) (x4 : Int32) : entryFrame m #[(.ref x0), (.int x1), (.ref x2), (.int x3), (.int x4)] 7 = mkF m 0 #[.val (.ref x0), .val (.int x1), .val (.ref x2), .val (.int x3), .val (.int x4), .unset, .unset] [] := by first | (simp [entryFrame, mkF, argsToLocals, Value.category]; done) | rfl
theorem ef_rc89_getChar (m : MethodId) (x0 : Addr) (x1 : Int32) : entryFrame m #[(.ref x0), (.int x1)] 2 = mkF m 0 #[.val (.ref x0), .val (.int x1)] [] := by first | (simp [entryFrame, mkF, argsToLocals, Value.category]; done) | rfl
theorem ef_rc90_make (m : MethodId) (x0 : Int32) (x1 : Int32) (x2 : Int32) (x3 : Int32) : entryFrame m #[(.int x0), (.int x1), (.int x2), (.int x3)] 4 = mkF m 0 #[.val (.int x0), .val (.int x1), .val (.int x2), .val (.int x3)] [] := by first | (simp [entryFrame, mkF, argsToLocals, Value.category]; done) | rfl
theorem ef_rc91_init (m : MethodId) (x0 : Addr) (x1 : Addr) : entryFrame m #[(.ref x0), (.ref x1)] 2 = mkF m 0 #[.val (.ref x0), .val (.ref x1)] [] := by first | (simp [entryFrame, mkF, argsToLocals, Value.category]; done) | rfl
theorem ef_rc92_init (m : MethodId) (x0 : Addr) (x1 : Addr) (x2 : Int32) (x3 : Int32) : entryFrame m #[(.ref x0), (.ref x1), (.int x2), (.int x3), .null] 6 = mkF m 0 #[.val (.ref x0), .val (.ref x1), .val (.int x2), .val (.int x3), .val .null, .unset] [] := by first | (simp [entryFrame, mkF, argsToLocals, Value.category]; done) | rfl
theorem ef_rc93_compress (m : MethodId) (x0 : Addr) (x1 : Int32) (x2 : Int32) : entryFrame m #[(.ref x0), (.int x1), (.int x2)] 6 = mkF m 0 #[.val (.ref x0), .val (.int x1), .val (.int x2), .unset, .unset, .unset] [] := by first | (simp [entryFrame, mkF, argsToLocals, Value.category]; done) | rfl
theorem ef_rc94_compress (m : MethodId) (x0 : Addr) (x1 : Int32) (x2 : Addr) (x3 : Int32) (x4 : Int32) : entryFrame m #[(.ref x0), (.int x1), (.ref x2), (.int x3), (.int x4)] 7 = mkF m 0 #[.val (.ref x0), .val (.int x1), .val (.ref x2), .val (.int x3), .val (.int x4), .unset, .unset] [] := by first | (simp [entryFrame, mkF, argsToLocals, Value.category]; done) | rfl
theorem ef_rc95_coderFromArrayLen (m : MethodId) (x0 : Addr) (x1 : Int32) : entryFrame m #[(.ref x0), (.int x1)] 2 = mkF m 0 #[.val (.ref x0), .val (.int x1)] [] := by first | (simp [entryFrame, mkF, argsToLocals, Value.category]; done) | rfl
theorem ef_rc96_traceAsked (m : MethodId) (x0 : Addr) : entryFrame m #[(.ref x0)] 1 = mkF m 0 #[.val (.ref x0)] [] := by first | (simp [entryFrame, mkF, argsToLocals, Value.category]; done) | rfl
theorem ef_rc97_isEmpty (m : MethodId) (x0 : Addr) : entryFrame m #[(.ref x0)] 1 = mkF m 0 #[.val (.ref x0)] [] := by first | (simp [entryFrame, mkF, argsToLocals, Value.category]; done) | rfl
theorem ef_rc98_equals (m : MethodId) (x0 : Addr) (x1 : Addr) : entryFrame m #[(.ref x0), (.ref x1)] 3 = mkF m 0 #[.val (.ref x0), .val (.ref x1), .unset] [] := by first | (simp [entryFrame, mkF, argsToLocals, Value.category]; done) | rfl
theorem ef_rc99_equals (m : MethodId) (x0 : Addr) (x1 : Addr) : entryFrame m #[(.ref x0), (.ref x1)] 3 = mkF m 0 #[.val (.ref x0), .val (.ref x1), .unset] [] := by first | (simp [entryFrame, mkF, argsToLocals, Value.category]; done) | rfl
theorem wq {Z : State} {a0 : Array Value} (hw : ∀ d ∈ tables_1, d.before a0 Z = true) (i : Nat) {d : Jvm.Cond} (h : tables_1[i]? = some d) : d.before a0 Z = true := hw d (List.mem_of_getElem? h)
abbrev Met (l : Launch) (y : MethodName) (bytes : ByteArray) (ml : Nat) (rt : Option FieldType) (ws : List Jvm.Cond) (rm : Room) (args : Array Value) (Z : State) (h0 : Heap) (Q : Option Value → Heap → List Loc → Prop) : Prop :=
  MetFree l y (head1 (Jvm.Cond.code y bytes ml rt :: ws) rm) (fun a U => a = args ∧ Z.Warmed39 U.vm ∧ U.heap = h0) (fun _ _ _ _ _ => True) (fun _ U o U' => ∃ v L, o = .returned v ∧ Q v U'.heap L ∧ FrameEnd U o U' L rm.cells rm.slots)
abbrev MetW (l : Launch) (y : MethodName) (bytes : ByteArray) (ml : Nat) (rt : Option FieldType) (ws : List Jvm.Cond) (rm : Room) (args : Array Value) (Z : State) (h0 : Heap) (Q : Option Value → Heap → List Loc → Prop) : Prop :=
  MetFree l y (head1 (Jvm.Cond.code y bytes ml rt :: ws) rm) (fun a U => a = args ∧ Z.Warmed39 U.vm ∧ U.heap = h0) (fun _ _ _ _ _ => True) (fun _ U o U' => ∃ v L, o = .returned v ∧ Q v U'.heap L ∧ ReturnedEndW U o U' L rm.cells rm.slots)
abbrev Go (p : Program) (e : Env) (below : List Frame) (s₁ : State) (f₀ : JFrame) (T : State) (f : JFrame) : Prop := ∀ t, Steps p.tables e below (T.setTop f) t → Steps p.tables e below (s₁.setTop f₀) t
abbrev nString_0 : String := "java/lang/String"
abbrev nString_1 : String := "java/lang/StringUTF16"
abbrev nUnfore_2 : String := "com/example/marga/marga/cli/UnforeseenFailure"
abbrev nUnfore_3 : String := "com/example/marga/marga/cli/UnforeseenFailureTraceAskedPinLaw"
abbrev my_0 : MethodName := (⟨"com/example/marga/marga/cli/UnforeseenFailure", "traceAsked", "(Ljava/lang/String;)Z"⟩ : MethodName)
abbrev my_1 : MethodName := (⟨"java/lang/String", "<init>", "([CIILjava/lang/Void;)V"⟩ : MethodName)
abbrev my_2 : MethodName := (⟨"java/lang/String", "<init>", "([C)V"⟩ : MethodName)
abbrev my_3 : MethodName := (⟨"com/example/marga/marga/cli/UnforeseenFailureTraceAskedPinLaw", "make", "(ICCC)Ljava/lang/String;"⟩ : MethodName)
abbrev my_4 : MethodName := (⟨"java/lang/String", "isEmpty", "()Z"⟩ : MethodName)
abbrev my_5 : MethodName := (⟨"java/lang/StringUTF16", "compress", "([CI[BII)I"⟩ : MethodName)
abbrev my_6 : MethodName := (⟨"java/lang/StringUTF16", "newBytesLength", "(I)I"⟩ : MethodName)
abbrev my_7 : MethodName := (⟨"java/lang/StringUTF16", "newBytesFor", "(I)[B"⟩ : MethodName)
abbrev my_8 : MethodName := (⟨"java/lang/StringUTF16", "putChar", "([BII)V"⟩ : MethodName)
abbrev my_9 : MethodName := (⟨"java/lang/StringUTF16", "toBytes", "([CII)[B"⟩ : MethodName)
abbrev my_10 : MethodName := (⟨"java/lang/StringUTF16", "getChar", "([BI)C"⟩ : MethodName)
abbrev my_11 : MethodName := (⟨"java/lang/StringUTF16", "compress", "([CII)[B"⟩ : MethodName)
abbrev my_12 : MethodName := (⟨"java/lang/StringUTF16", "coderFromArrayLen", "([BI)B"⟩ : MethodName)
abbrev my_13 : MethodName := (⟨"java/lang/String", "equals", "(Ljava/lang/Object;)Z"⟩ : MethodName)
abbrev my_14 : MethodName := (⟨"java/lang/StringLatin1", "equals", "([B[B)Z"⟩ : MethodName)
theorem own_wS {Z : State} {a0 : Array Value} (hw : ∀ d ∈ tables_1, d.before a0 Z = true) : ∀ a ∈ Bundle.stringAtoms, a.before a0 Z = true := by
  intro a ha
  simp only [Bundle.stringAtoms, List.mem_cons, List.not_mem_nil, or_false] at ha
  rcases ha with rfl | rfl | rfl | rfl | rfl | rfl | rfl
  · exact (wq hw 7 rfl)
  · exact (wq hw 6 rfl)
  · exact (wq hw 20 rfl)
  · exact (wq hw 21 rfl)
  · exact (wq hw 22 rfl)
  · exact (wq hw 23 rfl)
  · exact (wq hw 24 rfl)
theorem own_isC (y : Int32) : nar .char (nar .char y) = nar .char y := by
  have k : ∀ u : UInt16, (u.toUInt32.toInt32).toUInt32.toUInt16 = u := fun u => by simp
  show ((y.toUInt32.toUInt16.toUInt32.toInt32).toUInt32.toUInt16).toUInt32.toInt32 = y.toUInt32.toUInt16.toUInt32.toInt32
  rw [k]
theorem own_crange {c : Int32} (h : nar .char c = c) : 0 ≤ c.toInt ∧ c.toInt ≤ 65535 := by
  have f := fits_nar_char c
  rw [h] at f
  have f' : (decide ((0 : Int32) ≤ c) && decide (c ≤ (65535 : Int32))) = true := f
  rw [Bool.and_eq_true, decide_eq_true_eq, decide_eq_true_eq, Int32.le_iff_toInt_le, Int32.le_iff_toInt_le] at f'
  have e1 : (0 : Int32).toInt = 0 := by decide
  have e2 : (65535 : Int32).toInt = 65535 := by decide
  omega
theorem own_b48 {c : Int32} (h : nar .char c = c) (k : ¬ (255 : Int32) < c) (n : ¬ c = (48 : Int32)) : ¬ (c.toInt8.toInt32) = (48 : Int32) := by
  intro q
  have r := own_crange h
  rw [Int32.lt_iff_toInt_lt] at k
  have e255 : ((255 : Int32).toInt) = 255 := by decide
  have e48 : ((48 : Int32).toInt) = 48 := by decide
  have q' := congrArg Int32.toInt q
  rw [Int8.toInt_toInt32, Int32.toInt_toInt8, e48] at q'
  have : c.toInt = 48 := by
    rw [Int.bmod_def] at q'
    omega
  exact n (Int32.toInt_inj.mp (this.trans e48.symm))
theorem own_48 {c : Int32} (n : c = (48 : Int32)) : (c.toInt8.toInt32) = (48 : Int32) := by rw [n]; decide
theorem own_n48 {c : Int32} (k : (255 : Int32) < c) : ¬ c = (48 : Int32) := by
  intro q
  rw [q] at k
  revert k
  decide
theorem own_s8 : ∀ y : BitVec 8, (y.signExtend 32 &&& 255#32) = y.setWidth 32 := by decide +kernel
theorem own_bv (x : BitVec 32) (h : x.toNat < 65536) : ((((x.setWidth 8).signExtend 32) &&& 255#32) ||| ((((x.sshiftRight 8).setWidth 8).signExtend 32) &&& 255#32) <<< 8) = x := by
  rw [own_s8, own_s8]
  apply BitVec.eq_of_getLsbD_eq
  intro i hi
  have hz : 16 ≤ i → x.getLsbD i = false := fun q => by
    rw [← BitVec.testBit_toNat]
    exact Nat.testBit_lt_two_pow (Nat.lt_of_lt_of_le h (Nat.pow_le_pow_right (n := 2) (by decide) q))
  simp only [BitVec.getLsbD_or, BitVec.getLsbD_shiftLeft, BitVec.getLsbD_setWidth, BitVec.getLsbD_sshiftRight, hi, decide_true, Bool.true_and]
  by_cases h8 : i < 8
  · simp [h8]
  · by_cases h16 : i < 16
    · have e : 8 + (i - 8) = i := by omega
      have a1 : i - 8 < 8 := by omega
      have a2 : i - 8 < 32 := by omega
      have a3 : ¬ 32 ≤ i - 8 := by omega
      simp [h8, a1, a2, a3, e, hi]
    · have a1 : ¬ i - 8 < 8 := by omega
      simp [h8, a1, hz (by omega)]
theorem own_w8 (x : BitVec 32) : BitVec.signExtend 8 x = x.setWidth 8 := BitVec.signExtend_eq_setWidth_of_le _ (by decide)
theorem own_isB (z : Int32) : nar .byte (nar .byte z) = nar .byte z := by
  have k : ∀ u : Int8, (u.toInt32).toInt8 = u := fun u => by simp
  show ((z.toInt8.toInt32).toInt8).toInt32 = z.toInt8.toInt32
  rw [k]
theorem own_b8 (c : Int32) : (nar .byte c).toBitVec = (c.toBitVec.setWidth 8).signExtend 32 := by
  show (c.toInt8.toInt32).toBitVec = _
  simp [own_w8]
theorem own_Y {c : Int32} (h : nar .char c = c) : (((nar .byte (nar .byte (c >>> ((0 : Int32) &&& 31))) &&& (255 : Int32)) <<< ((0 : Int32) &&& 31)) ||| ((nar .byte (nar .byte (c >>> ((8 : Int32) &&& 31))) &&& (255 : Int32)) <<< ((8 : Int32) &&& 31))) = c := by
  have r := own_crange h
  have hx : c.toBitVec.toNat < 65536 := by
    have q : c.toBitVec.toInt = c.toInt := rfl
    have hb := c.toBitVec.isLt
    rw [BitVec.toInt_eq_toNat_cond] at q
    split at q <;> omega
  rw [own_isB, own_isB]
  apply Int32.toBitVec_inj.mp
  have e0 : (c >>> ((0 : Int32) &&& 31)) = c := by simp
  have e8 : (c >>> ((8 : Int32) &&& 31)).toBitVec = c.toBitVec.sshiftRight 8 := by simp
  rw [e0]
  have k := own_bv _ hx
  rw [← own_b8, ← e8, ← own_b8] at k
  simpa using k
theorem own_getc {c : Int32} (h : nar .char c = c) (k : (255 : Int32) < c) : (255 : Int32) < nar .char (nar .char (((nar .byte (nar .byte (c >>> ((0 : Int32) &&& 31))) &&& (255 : Int32)) <<< ((0 : Int32) &&& 31)) ||| ((nar .byte (nar .byte (c >>> ((8 : Int32) &&& 31))) &&& (255 : Int32)) <<< ((8 : Int32) &&& 31)))) := by
  rw [own_Y h, h, h]
  exact k
theorem own_48n {c : Int32} (n : c = (48 : Int32)) : nar .byte (c.toInt8.toInt32) = (48 : Int32) := (own_isB c).trans (own_48 n)
theorem own_b48n {c : Int32} (h : nar .char c = c) (k : ¬ (255 : Int32) < c) (n : ¬ c = (48 : Int32)) : ¬ nar .byte (c.toInt8.toInt32) = (48 : Int32) := fun q => own_b48 h k n ((own_isB c).symm.trans q)

abbrev CHS (Z : State) (vm : Vm) (h : Heap) (xs : List Addr) : Prop := CHv Z consts_1 vm h ∧ ∀ x ∈ xs, x < h.size ∧ Safe Z consts_1 vm h x
abbrev MetH (l : Launch) (y : MethodName) (bytes : ByteArray) (ml : Nat) (rt : Option FieldType) (ws : List Jvm.Cond) (rm : Room) (args : Array Value) (Z : State) (h0 : Heap) (xs : List Addr) (Q : Option Value → Heap → List Loc → Prop) : Prop :=
  MetFree l y (head1 (Jvm.Cond.code y bytes ml rt :: ws) rm) (fun a U => a = args ∧ Z.Warmed39 U.vm ∧ U.heap = h0 ∧ CHS Z U.vm h0 xs) (fun _ _ _ _ _ => True) (fun _ U o U' => ∃ v L, o = .returned v ∧ Q v U'.heap L ∧ ReturnedEndW U o U' L rm.cells rm.slots)
theorem own_EL {Z : State} {a0 : Array Value} (hw : ∀ d ∈ tables_1, d.before a0 Z = true) : EW Z a0 consts_1 := EW.cons (wq hw 47 rfl) (by decide) (EW.cons (wq hw 19 rfl) (by decide) EW.nil)
theorem own_CHx {Z : State} {vm : Vm} {h0 h : Heap} {x : Addr} (K : Keep h0 h []) (H : CHv Z consts_1 vm h0) (g : h0.size ≤ x) (lt : x < h.size) : CHS Z vm h [x] := by
  refine ⟨H.keep K (fun _ q => by cases q), fun y hy => ?_⟩
  cases List.mem_singleton.mp hy
  exact ⟨lt, Safe.keep K (fun _ q => by cases q) H (Safe.new g)⟩
theorem own_backCH {l : Launch} {R : Room} {p : Program} {e : Env} {below : List Frame} {s Z : State} {vm0 : Vm} {args a0 : Array Value} {h : Heap} {y : MethodName} {bytes : ByteArray} {maxL : Nat} {ret : Option FieldType} {rm : Room} {len W : Nat} {as' : Array Value} {xs : List Addr} {Q : Option Value → Heap → List Loc → Prop}
    (hM : MetH l y bytes maxL ret [] rm as' Z h xs Q) (hZ : Z.Warmed39 vm0) (wc : (Cond.code y bytes maxL ret).before a0 Z = true) (wz : (Cond.initialized y.cls).before a0 Z = true) (hf : rm.frames + 1 ≤ R.frames) (hl : W + (maxL + 11) + rm.locals ≤ R.locals) (hEL : EW Z a0 consts_1) (H : CHS Z vm0 h xs) :
    BackS l R p e below (s.setVm vm0) args y len W (fun A a => a = as' ∧ A.U.heap = h ∧ A.cells + rm.cells ≤ R.cells ∧ A.slots + rm.slots ≤ R.slots)
      (fun A _ v B => ∃ L, Q v B.U.heap L ∧ B.locs = A.locs ++ L ∧ B.cells = A.cells + rm.cells ∧ B.slots = A.slots + rm.slots) := by
  refine BackS.of_freeW (bytes := bytes) (maxL := maxL) (ret := ret) (E := fun _ _ o t L k n => k = rm.cells ∧ n = rm.slots ∧ ∃ v, o = .returned v ∧ Q v t.heap L) hM hf hl ?_ ?_ (fun _ _ _ _ _ _ _ _ _ => trivial) ?_ ?_
  · intro m meth c A a Y hp
    have hU : Z.Warmed39 A.U.vm := wtrans (s := s.setVm vm0) hZ Y.warmed
    exact ⟨by show (Cond.and _ .tt).before a A.U = true; rw [Cond.before_and, mv hU wc]; rfl, mv hU wc, mv hU wz, hp.2.2.1, hp.2.2.2⟩
  · intro m meth c A a g mk Y hp
    have K := CHv.at Y hZ hEL H.1
    exact ⟨hp.1, wtrans (s := s.setVm vm0) hZ Y.warmed, hp.2.1, K.1, fun x hx => ⟨(H.2 x hx).1, K.safe (H.2 x hx).1 (H.2 x hx).2⟩⟩
  · intro _ _ _ _ ⟨v, L, h1, h2, h3⟩
    exact ⟨L, _, _, h3, rfl, rfl, v, h1, h2⟩
  · intro m meth c A a g mk v t L k n Y hp _ _ ⟨e1, e2, v', e3, e4⟩
    cases e3
    subst e1 e2
    exact ⟨L, e4, rfl, rfl, rfl⟩
def SB (Z : State) (cs : Int32) : Prop := Sta Z Z.heap nString_0 "COMPACT_STRINGS" "Z" (.int cs) ∧ (¬ cs = (0 : Int32)) ∧ Sta Z Z.heap nString_1 "$assertionsDisabled" "Z" (.int (1 : Int32)) ∧ Sta Z Z.heap nString_1 "HI_BYTE_SHIFT" "I" (.int (0 : Int32)) ∧ Sta Z Z.heap nString_1 "LO_BYTE_SHIFT" "I" (.int (8 : Int32))
theorem own_sb {s : State} {args : Array Value} (w0 : (Cond.initializedFor nString_0 "COMPACT_STRINGS" "Z").before args s = true) (w1 : (Cond.isInt (.static nString_0 "COMPACT_STRINGS" "Z")).before args s = true) (w2 : (Cond.not (.eq (.static nString_0 "COMPACT_STRINGS" "Z") (.int 0))).before args s = true)
    (a1 : (Cond.initializedFor nString_1 "$assertionsDisabled" "Z").before args s = true) (a2 : (Cond.eq (.static nString_1 "$assertionsDisabled" "Z") (.int 1)).before args s = true) (b1 : (Cond.initializedFor nString_1 "HI_BYTE_SHIFT" "I").before args s = true) (b2 : (Cond.eq (.static nString_1 "HI_BYTE_SHIFT" "I") (.int 0)).before args s = true) (d1 : (Cond.initializedFor nString_1 "LO_BYTE_SHIFT" "I").before args s = true) (d2 : (Cond.eq (.static nString_1 "LO_BYTE_SHIFT" "I") (.int 8)).before args s = true) : ∃ cs, SB s cs := by
  obtain ⟨cs, ec⟩ := is_v (Cond.before_iff.mp w1)
  refine ⟨cs, Sta.start ec (Or.inl w0), fun q => ?_, Sta.start (Cond.eq_int a2 rfl) (Or.inl a1), Sta.start (Cond.eq_int b2 rfl) (Or.inl b1), Sta.start (Cond.eq_int d2 rfl) (Or.inl d1)⟩
  subst q
  have h := Cond.before_iff.mp w2
  have e := eq_i (a := .static nString_0 "COMPACT_STRINGS" "Z") (b := .int 0) ec (Term.int_eval (0 : Int32)) rfl
  have k : ((Cond.eq (.static nString_0 "COMPACT_STRINGS" "Z") (.int 0)).value args s none s []).map (!·) = some true := h
  rw [e] at k
  simp at k
def Q0 (n0 : Nat) (v : Option Value) (h : Heap) (L : List Loc) : Prop := v = some (.int 1) ∧ Fr n0 L
theorem own_c3 (x : Int32) : (x &&& (3 : Int32)) = 0 ∨ (x &&& (3 : Int32)) = 1 ∨ (x &&& (3 : Int32)) = 2 ∨ (x &&& (3 : Int32)) = 3 := by
  have h := c_mask x 3 2 (by decide) (by decide)
  have key : ∀ k : Int32, (x &&& (3 : Int32)).toInt = k.toInt → (x &&& (3 : Int32)) = k := fun k h => Int32.toInt_inj.mp h
  have e0 : ((0 : Int32).toInt) = 0 := by decide
  have e1 : ((1 : Int32).toInt) = 1 := by decide
  have e2 : ((2 : Int32).toInt) = 2 := by decide
  have e3 : ((3 : Int32).toInt) = 3 := by decide
  by_cases h0 : (x &&& (3 : Int32)).toInt = 0
  · exact Or.inl (key _ (by omega))
  by_cases h1 : (x &&& (3 : Int32)).toInt = 1
  · exact Or.inr (Or.inl (key _ (by omega)))
  by_cases h2 : (x &&& (3 : Int32)).toInt = 2
  · exact Or.inr (Or.inr (Or.inl (key _ (by omega))))
  · exact Or.inr (Or.inr (Or.inr (key _ (by omega))))
def Q_rc1_traceAsked (Z : State)  (h0 : Heap) (n0 : Nat) (v : Option Value) (h : Heap) (L : List Loc) : Prop := v = some (.int (0 : Int32)) ∧ Fr n0 L ∧ h = h0
set_option maxRecDepth 65536 in
set_option maxHeartbeats 40000000 in
theorem rc1_traceAsked (l : Launch) (Z : State) (a0 : Array Value) (hw : ∀ d ∈ tables_1, d.before a0 Z = true) (ws : List Jvm.Cond) (cs : Int32) (hS : SB Z cs)  (h0 : Heap) (n0 : Nat) (O0 : Old Z n0 h0)  :
    Met l my_0 prog_17_method_2_code 1 (some .boolean) ws ({ frames := 0, cells := 0, slots := 0, locals := 0 } : Room) #[.null] Z h0 (Q_rc1_traceAsked Z h0 n0) := by
  refine MetFree.of_bodySF (plainFor_of_name pn_0) hisR ?_
  intro p e s m args below meth c s₁ Bd hml0 hP hK
  obtain ⟨rfl, hZ, hh⟩ := hP
  have hx := Bd.exec
  have hby := Bd.bytes
  have hml : c.maxLocals = 1 := hml0
  have hown : s.vm.findClass nUnfore_2 = some m.cls := findClass_of_methodNamed Bd.named
  have hnm := (name_of_methodNamed Bd.named Bd.method).1
  have X0 : Stand p l e ({ frames := 0, cells := 0, slots := 0, locals := 0 } : Room) s m #[.null] below meth c s₁ [] 0 0 := Stand.of_body Bd
  have e0 : s₁.heap = h0 := by rw [← hh, Bd.state]; rfl
  have N0 := Fr.nil n0
  obtain ⟨f₀, hf₀⟩ : ∃ f, f = entryFrame m #[.null] 1 := ⟨_, rfl⟩
  rw [← hf₀]
  have pre0 : Go p e below s₁ f₀ s₁ (mkF m 0 #[.val .null] []) := fun t k => castTop (hf₀.trans (ef_rc1_traceAsked m )) k
  obtain ⟨fs, hr, hrun, hended, hW, hsame⟩ := X0.leave (v := (some (.int (0 : Int32)))) (fun h => by rw [Bd.returns] at h; cases h)
  refine ⟨_, _, pre0 _ ?_, hrun, hended, _, _, rfl, ?_, ⟨_, rfl⟩, hW, hsame.mono (by decide) (by decide)⟩
  · refine XS.aloadN X0.here hx rfl (hb hby d_prog_17_method_2_0) rfl rfl ?_
    refine XS.ifnullYes X0.here hx rfl (pc0 := 1) (pc' := 24) rfl (hb hby d_prog_17_method_2_1) rfl (by decide) (by decide) ?_
    refine XS.iconst X0.here hx rfl (hb hby d_prog_17_method_2_24) ?_
    exact retN X0 hx (t := .boolean) Bd.returns (by simp) (hb hby d_prog_17_method_2_25) hr
  · show Q_rc1_traceAsked Z h0 n0 _ s₁.heap _
    rw [e0]
    exact ⟨rfl, N0, rfl⟩
def Q_rc4_init (Z : State) (a1 : Addr) (a2 : Addr) (h0 : Heap) (n0 : Nat) (v : Option Value) (h : Heap) (L : List Loc) : Prop := ∃ (sb2 : Addr), ∃ (kc2 : ClassId), v = none ∧ Fr n0 L ∧ Keep h0 h [a1] ∧ Exa Z h a1 nString_0 ∧ Fld Z h a1 nString_0 "coder" "B" (.int (0 : Int32)) ∧ Fld Z h a1 nString_0 "value" "[B" (.ref sb2) ∧ Arv Z h sb2 kc2 .byte (0 : Int32) [] (.int (0 : Int32))
set_option maxRecDepth 65536 in
set_option maxHeartbeats 40000000 in
theorem rc4_init (l : Launch) (Z : State) (a0 : Array Value) (hw : ∀ d ∈ tables_1, d.before a0 Z = true) (ws : List Jvm.Cond) (cs : Int32) (hS : SB Z cs) (a1 : Addr) (a2 : Addr) (h0 : Heap) (n0 : Nat) (O0 : Old Z n0 h0) (g_a1 : n0 ≤ a1) (g_a2 : n0 ≤ a2) (E_a1 : Exa Z h0 a1 nString_0) (F_a1_coder : Fld Z h0 a1 nString_0 "coder" "B" (.int (0 : Int32))) (F_a1_value : Fld Z h0 a1 nString_0 "value" "[B" .null) :
    MetH l my_1 jdk_42_method_149_code 6 none ws ({ frames := 1, cells := 2, slots := 4, locals := 12 } : Room) #[(.ref a1), (.ref a2), (.int (0 : Int32)), (.int (0 : Int32)), .null] Z h0 [a1] (Q_rc4_init Z a1 a2 h0 n0) := by
  refine MetFree.of_bodySF (plainFor_of_name pn_1) hisR ?_
  intro p e s m args below meth c s₁ Bd hml0 hP hK
  obtain ⟨rfl, hZ, hh, hCH⟩ := hP
  have hx := Bd.exec
  have hby := Bd.bytes
  have hml : c.maxLocals = 6 := hml0
  have hown : s.vm.findClass nString_0 = some m.cls := findClass_of_methodNamed Bd.named
  have hnm := (name_of_methodNamed Bd.named Bd.method).1
  have X0 : Stand p l e ({ frames := 1, cells := 2, slots := 4, locals := 12 } : Room) (s.setVm s.vm) m #[(.ref a1), (.ref a2), (.int (0 : Int32)), (.int (0 : Int32)), .null] below meth c s₁ [] 0 0 := Stand.of_body Bd
  have e0 : s₁.heap = h0 := by rw [← hh, Bd.state]; rfl
  have N0 := Fr.nil n0
  obtain ⟨f₀, hf₀⟩ : ∃ f, f = entryFrame m #[(.ref a1), (.ref a2), (.int (0 : Int32)), (.int (0 : Int32)), .null] 6 := ⟨_, rfl⟩
  rw [← hf₀]
  have pre0 : Go p e below s₁ f₀ s₁ (mkF m 0 #[.val (.ref a1), .val (.ref a2), .val (.int (0 : Int32)), .val (.int (0 : Int32)), .val .null, .unset] []) := fun t k => castTop (hf₀.trans (ef_rc4_init m (a1) (a2) ((0 : Int32)) ((0 : Int32)))) k
  have hZ0 : Z.Warmed39 (s.setVm s.vm).vm := hZ
  have hown0 : (s.setVm s.vm).vm.findClass nString_0 = some m.cls := hown
  have hS0 : s.Since s.vm s.heap.size := (State.WarmedH.refl s).since _
  have hk0 : s.heap.size ≤ h0.size := by rw [hh]; exact Nat.le_refl _
  obtain ⟨T1, X1, e1, st1⟩ := initO X0 hx hZ0 hown0 (wq hw 16 rfl) (wq hw 17 rfl) (wq hw 18 rfl) e0 (g := (mkF m 1 #[.val (.ref a1), .val (.ref a2), .val (.int (0 : Int32)), .val (.int (0 : Int32)), .val .null, .unset] [(.ref a1)])) rfl (by rw [hml]; rfl) rfl (hb hby d_jdk_42_method_149_1) (by decide) (W := 0) (by show 2 * 0 + _ ≤ _; exact Nat.le_of_eq rfl) (by decide)
  obtain ⟨sa2, T2, h2, k2, sb2, kc2, X2, e2, E2, hS2, hk2, hZ2, hown2, A2, Fc2, Fv2, Va2, la2, lb2, Cr2, Lt2, hne2, st2⟩ := ldcCH X1 hx hZ0 hown0 (wq hw 19 rfl) (own_wS hw) e1 hS0 hk0 (own_EL hw) (List.mem_of_getElem? (i := 1) rfl) hCH.1 (vs := []) (z := (0 : Int32)) ⟨by decide, rfl⟩ (by decide) rfl (g := (mkF m 9 #[.val (.ref a1), .val (.ref a2), .val (.int (0 : Int32)), .val (.int (0 : Int32)), .val .null, .unset] [(.ref a1)])) rfl (hb hby d_jdk_42_method_149_9) (n := 0) (by decide) (by decide) (by decide) (by decide)
  have O3 : Old Z n0 h2 := Old.ext O0 E2
  have K4 : Keep h0 h2 [a1] := (Keep.refl h0 [a1]).ext E2
  have hk5 := Nat.le_trans hk0 E2.1
  have nn6 := hne2 a1 (Cr2.safe (hCH.2 a1 (List.mem_of_getElem? (i := 0) rfl)).1 (hCH.2 a1 (List.mem_of_getElem? (i := 0) rfl)).2)
  obtain ⟨T7, X7, e7, st7⟩ := getF X2 hx hZ2 hown2 (host := "") (Or.inl (wq hw 25 rfl)) Via.refl e2 Fv2 (g := (mkF m 11 #[.val (.ref a1), .val (.ref a2), .val (.int (0 : Int32)), .val (.int (0 : Int32)), .val .null, .unset] [(.ref sa2), (.ref a1)])) rfl rfl (hb hby d_jdk_42_method_149_11)
  have t8 : Exa Z h2 a1 nString_0 := (E_a1.ext E2)
  have t9 : Fld Z h2 a1 nString_0 "value" "[B" .null := (F_a1_value.ext E2)
  obtain ⟨T10, h10, X10, e10, W10, st10⟩ := putF X7 hx hZ2 hown2 (host := "") (Or.inl (wq hw 25 rfl)) Via.refl e7 t9 t8 (Or.inr ⟨(wq hw 21 rfl), rfl, hnm⟩) (wq hw 6 rfl) (ty := (.array .byte)) (by decide) rfl rfl (g := (mkF m 14 #[.val (.ref a1), .val (.ref a2), .val (.int (0 : Int32)), .val (.int (0 : Int32)), .val .null, .unset] [(.ref sb2), (.ref a1)])) rfl rfl (hb hby d_jdk_42_method_149_14)
  have f11 : Fld Z h10 a1 nString_0 "value" "[B" (.ref sb2) := t9.same W10
  have N10 := Fr.snoc X10 N0 g_a1
  have O12 : Old Z n0 h10 := Old.wr O3 W10 g_a1
  have K13 : Keep h0 h10 [a1] := K4.wr W10 (Or.inl (List.mem_of_getElem? (i := 0) rfl))
  have hk14 := Nat.le_trans hk2 (Keep.of_wr W10).1
  have t15 : Fld Z h10 sa2 nString_0 "coder" "B" (.int (0 : Int32)) := (Fc2.other W10 (Or.inl (Ne.symm nn6.1)))
  obtain ⟨T16, X16, e16, st16⟩ := getF X10 hx hZ2 hown2 (host := "") (Or.inl (wq hw 26 rfl)) Via.refl e10 t15 (g := (mkF m 20 #[.val (.ref a1), .val (.ref a2), .val (.int (0 : Int32)), .val (.int (0 : Int32)), .val .null, .unset] [(.ref sa2), (.ref a1)])) rfl rfl (hb hby d_jdk_42_method_149_20)
  have t17 : Exa Z h10 a1 nString_0 := (t8.wr W10)
  have t18 : Fld Z h10 a1 nString_0 "coder" "B" (.int (0 : Int32)) := ((F_a1_coder.ext E2).other W10 (Or.inr (slot_ne (Or.inr (wq hw 22 rfl)) (Or.inr (wq hw 21 rfl)) (by decide) (t := .byte) (t' := (.array .byte)) (by decide) (by decide))))
  obtain ⟨T19, h19, X19, e19, W19, st19⟩ := putFN X16 hx hZ2 hown2 (wq hw 26 rfl) Via.refl e16 t18 t17 (Or.inr ⟨(wq hw 22 rfl), rfl, hnm⟩) (wq hw 6 rfl) (ty := .byte) (v' := (.int (0 : Int32))) (by decide) rfl (by decide +kernel) (g := (mkF m 23 #[.val (.ref a1), .val (.ref a2), .val (.int (0 : Int32)), .val (.int (0 : Int32)), .val .null, .unset] [(.int (0 : Int32)), (.ref a1)])) rfl rfl (hb hby d_jdk_42_method_149_23)
  have f20 : Fld Z h19 a1 nString_0 "coder" "B" (.int (0 : Int32)) := t18.same W19
  have N19 := Fr.snoc X19 N10 g_a1
  have O21 : Old Z n0 h19 := Old.wr O12 W19 g_a1
  have K22 : Keep h0 h19 [a1] := K13.wr W19 (Or.inl (List.mem_of_getElem? (i := 0) rfl))
  have hk23 := Nat.le_trans hk14 (Keep.of_wr W19).1
  have t24 : Exa Z h19 a1 nString_0 := (t17.wr W19)
  have t25 : Fld Z h19 a1 nString_0 "value" "[B" (.ref sb2) := (f11.other W19 (Or.inr (slot_ne (Or.inr (wq hw 21 rfl)) (Or.inr (wq hw 22 rfl)) (by decide) (t := (.array .byte)) (t' := .byte) (by decide) (by decide))))
  have t26 : Arv Z h19 sb2 kc2 .byte (0 : Int32) [] (.int (0 : Int32)) := ((Va2.other W10 (Ne.symm nn6.2)).other W19 (Ne.symm nn6.2))
  obtain ⟨fs, hr, hrun, hended, hEW⟩ := Jvm.Stand.leaveW X19 hS2 (by rw [e19]; exact hk23) (v := none) (fun _ => rfl)
  refine ⟨_, _, pre0 _ ?_, hrun, hended, _, _, rfl, ?_, ⟨_, rfl⟩, hEW.2.1, hEW.2.2.1, hEW.2.2.2.mono (by decide) (by decide)⟩
  · refine XS.aloadN X0.here hx rfl (hb hby d_jdk_42_method_149_0) rfl rfl ?_
    refine st1 _ ?_
    refine XS.iloadN X1.here hx rfl (hb hby d_jdk_42_method_149_4) rfl ?_
    refine XS.ifNo X1.here hx rfl (hb hby d_jdk_42_method_149_5) rfl ((if0 _ _).trans (teq (by decide : (0 : Int32) = (0 : Int32))).2) ?_
    refine XS.aloadN X1.here hx rfl (hb hby d_jdk_42_method_149_8) rfl rfl ?_
    refine st2 _ ?_
    refine st7 _ ?_
    refine st10 _ ?_
    refine XS.aloadN X10.here hx rfl (hb hby d_jdk_42_method_149_17) rfl rfl ?_
    refine ldcAgain X10 hx hZ2 hown2 (wq hw 19 rfl) Lt2 (g := (mkF m 18 #[.val (.ref a1), .val (.ref a2), .val (.int (0 : Int32)), .val (.int (0 : Int32)), .val .null, .unset] [(.ref a1)])) rfl (hb hby d_jdk_42_method_149_18) _ ?_
    refine st16 _ ?_
    refine st19 _ ?_
    exact X19.returnOut hx Bd.returns (hb hby d_jdk_42_method_149_26) hr
  · show Q_rc4_init Z a1 a2 h0 n0 _ T19.heap _
    rw [e19]
    exact ⟨sb2, kc2, rfl, N19, K22, t24, f20, t25, t26⟩
def Q_rc3_init (Z : State) (a1 : Addr) (a2 : Addr) (k3 : ClassId) (h0 : Heap) (n0 : Nat) (v : Option Value) (h : Heap) (L : List Loc) : Prop := ∃ (x2_sb2 : Addr), ∃ (x2_kc2 : ClassId), v = none ∧ Fr n0 L ∧ Keep h0 h [a1] ∧ Exa Z h a1 nString_0 ∧ Fld Z h a1 nString_0 "coder" "B" (.int (0 : Int32)) ∧ Fld Z h a1 nString_0 "value" "[B" (.ref x2_sb2) ∧ Arv Z h x2_sb2 x2_kc2 .byte (0 : Int32) [] (.int (0 : Int32))
set_option maxRecDepth 65536 in
set_option maxHeartbeats 40000000 in
theorem rc3_init (l : Launch) (Z : State) (a0 : Array Value) (hw : ∀ d ∈ tables_1, d.before a0 Z = true) (ws : List Jvm.Cond) (cs : Int32) (hS : SB Z cs) (a1 : Addr) (a2 : Addr) (k3 : ClassId) (h0 : Heap) (n0 : Nat) (O0 : Old Z n0 h0) (g_a1 : n0 ≤ a1) (g_a2 : n0 ≤ a2) (E_a1 : Exa Z h0 a1 nString_0) (F_a1_coder : Fld Z h0 a1 nString_0 "coder" "B" (.int (0 : Int32))) (F_a1_value : Fld Z h0 a1 nString_0 "value" "[B" .null) (V_a2 : Arv Z h0 a2 k3 .char (0 : Int32) [] (.int (0 : Int32))) :
    MetH l my_2 jdk_42_method_3_code 2 none ws ({ frames := 2, cells := 2, slots := 4, locals := 29 } : Room) #[(.ref a1), (.ref a2)] Z h0 [a1] (Q_rc3_init Z a1 a2 k3 h0 n0) := by
  refine MetFree.of_bodySF (plainFor_of_name pn_1) hisR ?_
  intro p e s m args below meth c s₁ Bd hml0 hP hK
  obtain ⟨rfl, hZ, hh, hCH⟩ := hP
  have hx := Bd.exec
  have hby := Bd.bytes
  have hml : c.maxLocals = 2 := hml0
  have hown : s.vm.findClass nString_0 = some m.cls := findClass_of_methodNamed Bd.named
  have hnm := (name_of_methodNamed Bd.named Bd.method).1
  have X0 : Stand p l e ({ frames := 2, cells := 2, slots := 4, locals := 29 } : Room) (s.setVm s.vm) m #[(.ref a1), (.ref a2)] below meth c s₁ [] 0 0 := Stand.of_body Bd
  have e0 : s₁.heap = h0 := by rw [← hh, Bd.state]; rfl
  have N0 := Fr.nil n0
  obtain ⟨f₀, hf₀⟩ : ∃ f, f = entryFrame m #[(.ref a1), (.ref a2)] 2 := ⟨_, rfl⟩
  rw [← hf₀]
  have pre0 : Go p e below s₁ f₀ s₁ (mkF m 0 #[.val (.ref a1), .val (.ref a2)] []) := fun t k => castTop (hf₀.trans (ef_rc3_init m (a1) (a2))) k
  have hZ0 : Z.Warmed39 (s.setVm s.vm).vm := hZ
  have hown0 : (s.setVm s.vm).vm.findClass nString_0 = some m.cls := hown
  have hS0 : s.Since s.vm s.heap.size := (State.WarmedH.refl s).since _
  have hk0 : s.heap.size ≤ h0.size := by rw [hh]; exact Nat.le_refl _
  obtain ⟨c1, Ar1, q1, S1, M1, Hh1, G1⟩ := (id V_a2)
  obtain ⟨_, _, ⟨T2, L2, k2, n2⟩, -, X2, hSi2, hge2, ⟨Lc2, hQ2, l2, y2, z2⟩, st2⟩ := X0.specialBackS hx (y := my_1) rfl hown0 (mvT hZ0 (wq hw 12 rfl)) (mvT hZ0 (wq hw 13 rfl)) (mvT hZ0 (wq hw 15 rfl)) (by decide) (own_backCH (W := 0) (rc4_init l Z a0 hw [] cs hS a1 a2 h0 n0 O0 g_a1 g_a2 E_a1 F_a1_coder F_a1_value) hZ0 (wq hw 15 rfl) (wq hw 7 rfl) (by decide) (by decide) (own_EL hw) hCH) (g := (mkF m 6 #[.val (.ref a1), .val (.ref a2)] [.null, (.int (0 : Int32)), (.int (0 : Int32)), (.ref a2), (.ref a1)])) rfl (by rw [hml]; rfl) (Steps.refl _) (a := a1) (argsL := [(.ref a2), (.int (0 : Int32)), (.int (0 : Int32)), .null]) (rest := []) (lenOf pd_1 rfl) rfl (by show 2 * 0 + _ ≤ _; exact Nat.le_of_eq rfl) (hb hby d_jdk_42_method_3_6) (fun _ _ => ⟨rfl, e0, (by decide : 0 + 2 ≤ _), (by decide : 0 + 4 ≤ _)⟩)
  dsimp only [Pt.U, Pt.locs, Pt.cells, Pt.slots] at X2 l2 y2 z2 st2 hQ2 hSi2 hge2
  have X2 := own_to X2 l2 y2 z2
  obtain ⟨X2r, hS2, hZ2, hown2⟩ := rebS hS0 hk0 X2 hSi2 (by rw [← e0]; exact hge2) hZ0 hown0
  obtain ⟨x2_sb2, x2_kc2, rfl, N2q, K2, q2_0, q2_1, q2_2, q2_3⟩ := hQ2
  have N2 := Fr.app N0 N2q
  have O3 : Old Z n0 T2.heap := Old.keep O0 K2 (allS g_a1 all0)
  have K4 : Keep h0 T2.heap [a1] := (Keep.refl h0 [a1]).trans K2 (allS (Or.inl (List.mem_of_getElem? (i := 0) rfl)) all0)
  obtain ⟨fs, hr, hrun, hended, hEW⟩ := Jvm.Stand.leaveW X2r hS2 (Nat.le_refl _) (v := none) (fun _ => rfl)
  refine ⟨_, _, pre0 _ ?_, hrun, hended, _, _, rfl, ?_, ⟨_, rfl⟩, hEW.2.1, hEW.2.2.1, hEW.2.2.2.mono (by decide) (by decide)⟩
  · refine XS.aloadN X0.here hx rfl (hb hby d_jdk_42_method_3_0) rfl rfl ?_
    refine XS.aloadN X0.here hx rfl (hb hby d_jdk_42_method_3_1) rfl rfl ?_
    refine XS.iconst X0.here hx rfl (hb hby d_jdk_42_method_3_2) ?_
    refine XS.aloadN X0.here hx rfl (hb hby d_jdk_42_method_3_3) rfl rfl ?_
    refine X0.arraylength hx (by rw [e0]; exact Ar1.1) (State.isArrayOf_alike hZ0.alike Ar1.2.1) (g := (mkF m 4 #[.val (.ref a1), .val (.ref a2)] [(.ref a2), (.int (0 : Int32)), (.ref a2), (.ref a1)])) rfl rfl (hb hby d_jdk_42_method_3_4) _ ?_
    rw [len_of S1 M1]
    refine XS.aconstNull X0.here hx rfl (hb hby d_jdk_42_method_3_5) ?_
    refine st2.trans ?_
    exact X2r.returnOut hx Bd.returns (hb hby d_jdk_42_method_3_9) hr
  · show Q_rc3_init Z a1 a2 k3 h0 n0 _ T2.heap _
    exact ⟨x2_sb2, x2_kc2, rfl, N2, K4, q2_0, q2_1, q2_2, q2_3⟩
def Q_rc2_make (Z : State) (i1 : Int32) (i2 : Int32) (i3 : Int32) (h0 : Heap) (n0 : Nat) (v : Option Value) (h : Heap) (L : List Loc) : Prop := ∃ (b1 : Addr), ∃ (x20_x2_sb2 : Addr), ∃ (x20_x2_kc2 : ClassId), v = some (.ref b1) ∧ Fr n0 L ∧ Keep h0 h [] ∧ h0.size ≤ b1 ∧ Exa Z h b1 nString_0 ∧ Fld Z h b1 nString_0 "coder" "B" (.int (0 : Int32)) ∧ Fld Z h b1 nString_0 "value" "[B" (.ref x20_x2_sb2) ∧ Arv Z h x20_x2_sb2 x20_x2_kc2 .byte (0 : Int32) [] (.int (0 : Int32))
set_option maxRecDepth 65536 in
set_option maxHeartbeats 40000000 in
theorem rc2_make (l : Launch) (Z : State) (a0 : Array Value) (hw : ∀ d ∈ tables_1, d.before a0 Z = true) (ws : List Jvm.Cond) (cs : Int32) (hS : SB Z cs) (i1 : Int32) (i2 : Int32) (i3 : Int32) (h0 : Heap) (n0 : Nat) (O0 : Old Z n0 h0)  :
    MetH l my_3 method_2_code 4 (some (.object nString_0)) ws ({ frames := 3, cells := 4, slots := 8, locals := 43 } : Room) #[(.int (0 : Int32)), (.int i1), (.int i2), (.int i3)] Z h0 [] (Q_rc2_make Z i1 i2 i3 h0 n0) := by
  refine MetFree.of_bodySF (plainFor_of_name pn_2) hisR ?_
  intro p e s m args below meth c s₁ Bd hml0 hP hK
  obtain ⟨rfl, hZ, hh, hCH⟩ := hP
  have hx := Bd.exec
  have hby := Bd.bytes
  have hml : c.maxLocals = 4 := hml0
  have hown : s.vm.findClass nUnfore_3 = some m.cls := findClass_of_methodNamed Bd.named
  have hnm := (name_of_methodNamed Bd.named Bd.method).1
  have X0 : Stand p l e ({ frames := 3, cells := 4, slots := 8, locals := 43 } : Room) (s.setVm s.vm) m #[(.int (0 : Int32)), (.int i1), (.int i2), (.int i3)] below meth c s₁ [] 0 0 := Stand.of_body Bd
  have e0 : s₁.heap = h0 := by rw [← hh, Bd.state]; rfl
  have N0 := Fr.nil n0
  obtain ⟨f₀, hf₀⟩ : ∃ f, f = entryFrame m #[(.int (0 : Int32)), (.int i1), (.int i2), (.int i3)] 4 := ⟨_, rfl⟩
  rw [← hf₀]
  have pre0 : Go p e below s₁ f₀ s₁ (mkF m 0 #[.val (.int (0 : Int32)), .val (.int i1), .val (.int i2), .val (.int i3)] []) := fun t k => castTop (hf₀.trans (ef_rc2_make m ((0 : Int32)) (i1) (i2) (i3))) k
  have hZ0 : Z.Warmed39 (s.setVm s.vm).vm := hZ
  have hown0 : (s.setVm s.vm).vm.findClass nUnfore_3 = some m.cls := hown
  have hS0 : s.Since s.vm s.heap.size := (State.WarmedH.refl s).since _
  have hk0 : s.heap.size ≤ h0.size := by rw [hh]; exact Nat.le_refl _
  obtain ⟨T1, h1, X1, e1, E1, A1, D1, -, st1⟩ := newO X0 hx hZ0 hown0 (wq hw 5 rfl) (wq hw 6 rfl) (wq hw 7 rfl) e0 (g := (mkF m 4 #[.val (.int (0 : Int32)), .val (.int i1), .val (.int i2), .val (.int i3)] [])) rfl (hb hby d_method_2_4) (by decide) (by decide)
  obtain ⟨b1, gb1⟩ : ∃ z, z = h0.size := ⟨_, rfl⟩
  rw [← gb1] at A1 D1 st1
  have g2 : n0 ≤ b1 := Nat.le_trans (Nat.le_of_eq O0.1.symm) (Nat.le_trans O0.2.1 (Nat.le_of_eq gb1.symm))
  have s3 : h0.size ≤ b1 := Nat.le_trans (Keep.refl h0 []).1 (Nat.le_of_eq gb1.symm)
  have O4 : Old Z n0 h1 := Old.ext O0 E1
  have K5 : Keep h0 h1 [] := (Keep.refl h0 []).ext E1
  have hk6 := Nat.le_trans hk0 E1.1
  have f7 : Fld Z h1 b1 nString_0 "value" "[B" .null := D1 (Or.inr (wq hw 21 rfl)) (ty := (.array .byte)) (by decide)
  have f8 : Fld Z h1 b1 nString_0 "coder" "B" (.int (0 : Int32)) := D1 (Or.inr (wq hw 22 rfl)) (ty := .byte) (by decide)
  obtain ⟨T9, h9, k9, X9, e9, E9, A9, st9⟩ := newP X1 hx hZ0 (wq hw 8 rfl) e1 (g := (mkF m 9 #[.val (.int (0 : Int32)), .val (.int i1), .val (.int i2), .val (.int i3)] [(.int (0 : Int32)), (.ref b1), (.ref b1)])) rfl (hb hby d_method_2_9) rfl (by decide) (cap := 0) (by decide) (by decide) (by decide) (by decide)
  obtain ⟨b9, gb9⟩ : ∃ z, z = h1.size := ⟨_, rfl⟩
  rw [← gb9] at A9 st9
  have ne10 : b1 ≠ b9 := Nat.ne_of_lt (Nat.lt_of_lt_of_le A1.lt (Nat.le_of_eq gb9.symm))
  have g11 : n0 ≤ b9 := Nat.le_trans (Nat.le_of_eq O4.1.symm) (Nat.le_trans O4.2.1 (Nat.le_of_eq gb9.symm))
  have s12 : h0.size ≤ b9 := Nat.le_trans K5.1 (Nat.le_of_eq gb9.symm)
  have O13 : Old Z n0 h9 := Old.ext O4 E9
  have K14 : Keep h0 h9 [] := K5.ext E9
  have hk15 := Nat.le_trans hk6 E9.1
  have v16 : Arv Z h9 b9 k9 .char (0 : Int32) [] (.int (0 : Int32)) := (Arv.new A9 (by decide)).pad (pad_rep [] (.int (0 : Int32)) 0)
  have t17 : Exa Z h9 b1 nString_0 := (A1.ext E9)
  have t18 : Fld Z h9 b1 nString_0 "coder" "B" (.int (0 : Int32)) := (f8.ext E9)
  have t19 : Fld Z h9 b1 nString_0 "value" "[B" .null := (f7.ext E9)
  obtain ⟨_, _, ⟨T20, L20, k20, n20⟩, -, X20, hSi20, hge20, ⟨Lc20, hQ20, l20, y20, z20⟩, st20⟩ := X9.specialBackS hx (y := my_2) rfl hown0 (mvT hZ0 (wq hw 9 rfl)) (mvT hZ0 (wq hw 10 rfl)) (mvT hZ0 (wq hw 11 rfl)) (by decide) (own_backCH (W := 1) (rc3_init l Z a0 hw [] cs hS b1 b9 k9 h9 n0 O13 g2 g11 t17 t18 t19 v16) hZ0 (wq hw 11 rfl) (wq hw 7 rfl) (by decide) (by decide) (own_EL hw) (own_CHx K14 hCH.1 s3 t17.lt)) (g := (mkF m 11 #[.val (.int (0 : Int32)), .val (.int i1), .val (.int i2), .val (.int i3)] [(.ref b9), (.ref b1), (.ref b1)])) rfl (by rw [hml]; rfl) (Steps.refl _) (a := b1) (argsL := [(.ref b9)]) (rest := [(.ref b1)]) (lenOf pd_2 rfl) rfl (by show 2 * 0 + _ ≤ _; exact Nat.le_of_eq rfl) (hb hby d_method_2_11) (fun _ _ => ⟨rfl, e9, (by decide : 2 + 2 ≤ _), (by decide : 4 + 4 ≤ _)⟩)
  dsimp only [Pt.U, Pt.locs, Pt.cells, Pt.slots] at X20 l20 y20 z20 st20 hQ20 hSi20 hge20
  have X20 := own_to X20 l20 y20 z20
  obtain ⟨X20r, hS20, hZ20, hown20⟩ := rebS hS0 hk15 X20 hSi20 (by rw [← e9]; exact hge20) hZ0 hown0
  obtain ⟨x20_x2_sb2, x20_x2_kc2, rfl, N20q, K20, q20_0, q20_1, q20_2, q20_3⟩ := hQ20
  have N20 := Fr.app N0 N20q
  have O21 : Old Z n0 T20.heap := Old.keep O13 K20 (allS g2 all0)
  have K22 : Keep h0 T20.heap [] := K14.trans K20 (allS (Or.inr s3) all0)
  obtain ⟨fs, hr, hrun, hended, hEW⟩ := Jvm.Stand.leaveW X20r hS20 (Nat.le_refl _) (v := (some (.ref b1))) (fun h => by rw [Bd.returns] at h; cases h)
  refine ⟨_, _, pre0 _ ?_, hrun, hended, _, _, rfl, ?_, ⟨_, rfl⟩, hEW.2.1, hEW.2.2.1, hEW.2.2.2.mono (by decide) (by decide)⟩
  · refine XS.iloadN X0.here hx rfl (hb hby d_method_2_0) rfl ?_
    refine XS.ifNo X0.here hx rfl (hb hby d_method_2_1) rfl ((if0 _ _).trans (teq (by decide : (0 : Int32) = (0 : Int32))).2) ?_
    refine st1 _ ?_
    refine XS.dup X1.here hx rfl (hb hby d_method_2_7) rfl rfl ?_
    refine XS.iconst X1.here hx rfl (hb hby d_method_2_8) ?_
    refine st9 _ ?_
    refine st20.trans ?_
    exact retOut X20r hx Bd.returns rfl (Or.inr (Or.inr (Or.inr (Or.inr ⟨rfl, rfl, rfl⟩)))) (hb hby d_method_2_14) hr
  · show Q_rc2_make Z i1 i2 i3 h0 n0 _ T20.heap _
    exact ⟨b1, x20_x2_sb2, x20_x2_kc2, rfl, N20, K22, s3, q20_0, q20_1, q20_2, q20_3⟩
def Q_rc6_isEmpty (Z : State) (a1 : Addr) (a2 : Addr) (k3 : ClassId) (h0 : Heap) (n0 : Nat) (v : Option Value) (h : Heap) (L : List Loc) : Prop := v = some (.int (1 : Int32)) ∧ Fr n0 L ∧ h = h0
set_option maxRecDepth 65536 in
set_option maxHeartbeats 40000000 in
theorem rc6_isEmpty (l : Launch) (Z : State) (a0 : Array Value) (hw : ∀ d ∈ tables_1, d.before a0 Z = true) (ws : List Jvm.Cond) (cs : Int32) (hS : SB Z cs) (a1 : Addr) (a2 : Addr) (k3 : ClassId) (h0 : Heap) (n0 : Nat) (O0 : Old Z n0 h0) (g_a1 : n0 ≤ a1) (F_a1_value : Fld Z h0 a1 nString_0 "value" "[B" (.ref a2)) (V_a2 : Arv Z h0 a2 k3 .byte (0 : Int32) [] (.int (0 : Int32))) :
    Met l my_4 jdk_42_method_55_code 1 (some .boolean) ws ({ frames := 0, cells := 0, slots := 0, locals := 0 } : Room) #[(.ref a1)] Z h0 (Q_rc6_isEmpty Z a1 a2 k3 h0 n0) := by
  refine MetFree.of_bodySF (plainFor_of_name pn_1) hisR ?_
  intro p e s m args below meth c s₁ Bd hml0 hP hK
  obtain ⟨rfl, hZ, hh⟩ := hP
  have hx := Bd.exec
  have hby := Bd.bytes
  have hml : c.maxLocals = 1 := hml0
  have hown : s.vm.findClass nString_0 = some m.cls := findClass_of_methodNamed Bd.named
  have hnm := (name_of_methodNamed Bd.named Bd.method).1
  have X0 : Stand p l e ({ frames := 0, cells := 0, slots := 0, locals := 0 } : Room) s m #[(.ref a1)] below meth c s₁ [] 0 0 := Stand.of_body Bd
  have e0 : s₁.heap = h0 := by rw [← hh, Bd.state]; rfl
  have N0 := Fr.nil n0
  obtain ⟨f₀, hf₀⟩ : ∃ f, f = entryFrame m #[(.ref a1)] 1 := ⟨_, rfl⟩
  rw [← hf₀]
  have pre0 : Go p e below s₁ f₀ s₁ (mkF m 0 #[.val (.ref a1)] []) := fun t k => castTop (hf₀.trans (ef_rc6_isEmpty m (a1))) k
  obtain ⟨T1, X1, e1, st1⟩ := getF X0 hx hZ hown (host := "") (Or.inl (wq hw 25 rfl)) Via.refl e0 F_a1_value (g := (mkF m 1 #[.val (.ref a1)] [(.ref a1)])) rfl rfl (hb hby d_jdk_42_method_55_1)
  obtain ⟨c2, Ar2, q2, S2, M2, Hh2, G2⟩ := (id V_a2)
  obtain ⟨fs, hr, hrun, hended, hW, hsame⟩ := X1.leave (v := (some (.int (1 : Int32)))) (fun h => by rw [Bd.returns] at h; cases h)
  refine ⟨_, _, pre0 _ ?_, hrun, hended, _, _, rfl, ?_, ⟨_, rfl⟩, hW, hsame.mono (by decide) (by decide)⟩
  · refine XS.aloadN X0.here hx rfl (hb hby d_jdk_42_method_55_0) rfl rfl ?_
    refine st1 _ ?_
    refine X1.arraylength hx (by rw [e1]; exact Ar2.1) (State.isArrayOf_alike hZ.alike Ar2.2.1) (g := (mkF m 4 #[.val (.ref a1)] [(.ref a2)])) rfl rfl (hb hby d_jdk_42_method_55_4) _ ?_
    rw [len_of S2 M2]
    refine XS.ifNo X1.here hx rfl (hb hby d_jdk_42_method_55_5) rfl ((if0 _ _).trans (teq (by decide : (0 : Int32) = (0 : Int32))).2) ?_
    refine XS.iconst X1.here hx rfl (hb hby d_jdk_42_method_55_8) ?_
    refine XS.goto X1.here hx rfl (pc0 := 9) (pc' := 13) rfl (hb hby d_jdk_42_method_55_9) (by decide) (by decide) ?_
    exact retN X1 hx (t := .boolean) Bd.returns (by simp) (hb hby d_jdk_42_method_55_13) hr
  · show Q_rc6_isEmpty Z a1 a2 k3 h0 n0 _ T1.heap _
    rw [e1]
    exact ⟨rfl, N0, rfl⟩
def Q_rc5_traceAsked (Z : State) (a1 : Addr) (a2 : Addr) (k3 : ClassId) (h0 : Heap) (n0 : Nat) (v : Option Value) (h : Heap) (L : List Loc) : Prop := v = some (.int (0 : Int32)) ∧ Fr n0 L ∧ h = h0
set_option maxRecDepth 65536 in
set_option maxHeartbeats 40000000 in
theorem rc5_traceAsked (l : Launch) (Z : State) (a0 : Array Value) (hw : ∀ d ∈ tables_1, d.before a0 Z = true) (ws : List Jvm.Cond) (cs : Int32) (hS : SB Z cs) (a1 : Addr) (a2 : Addr) (k3 : ClassId) (h0 : Heap) (n0 : Nat) (O0 : Old Z n0 h0) (g_a1 : n0 ≤ a1) (E_a1 : Exa Z h0 a1 nString_0) (F_a1_value : Fld Z h0 a1 nString_0 "value" "[B" (.ref a2)) (V_a2 : Arv Z h0 a2 k3 .byte (0 : Int32) [] (.int (0 : Int32))) :
    Met l my_0 prog_17_method_2_code 1 (some .boolean) ws ({ frames := 1, cells := 0, slots := 0, locals := 12 } : Room) #[(.ref a1)] Z h0 (Q_rc5_traceAsked Z a1 a2 k3 h0 n0) := by
  refine MetFree.of_bodySF (plainFor_of_name pn_0) hisR ?_
  intro p e s m args below meth c s₁ Bd hml0 hP hK
  obtain ⟨rfl, hZ, hh⟩ := hP
  have hx := Bd.exec
  have hby := Bd.bytes
  have hml : c.maxLocals = 1 := hml0
  have hown : s.vm.findClass nUnfore_2 = some m.cls := findClass_of_methodNamed Bd.named
  have hnm := (name_of_methodNamed Bd.named Bd.method).1
  have X0 : Stand p l e ({ frames := 1, cells := 0, slots := 0, locals := 12 } : Room) s m #[(.ref a1)] below meth c s₁ [] 0 0 := Stand.of_body Bd
  have e0 : s₁.heap = h0 := by rw [← hh, Bd.state]; rfl
  have N0 := Fr.nil n0
  obtain ⟨f₀, hf₀⟩ : ∃ f, f = entryFrame m #[(.ref a1)] 1 := ⟨_, rfl⟩
  rw [← hf₀]
  have pre0 : Go p e below s₁ f₀ s₁ (mkF m 0 #[.val (.ref a1)] []) := fun t k => castTop (hf₀.trans (ef_rc5_traceAsked m (a1))) k
  obtain ⟨cq1, kq1, q1a, q1b, q1c⟩ := isOf hZ e0 (E_a1)
  obtain ⟨_, _, ⟨T1, L1, k1, n1⟩, -, X1, ⟨Lc1, hQ1, l1, y1, z1⟩, st1⟩ := X0.virtualBack hx (y := my_4) (z := my_4) hown (mvT hZ (wq hw 31 rfl)) (mvT hZ (wq hw 32 rfl)) (notFace_of_selects (args := #[]) (mvT hZ (wq hw 34 rfl))) (mvT hZ (wq hw 34 rfl)) (mvT hZ (wq hw 33 rfl)) (by decide) (backOf (W := 0) (rc6_isEmpty l Z a0 hw [] cs hS a1 a2 k3 h0 n0 O0 g_a1 F_a1_value V_a2) hZ (wq hw 35 rfl) (wq hw 7 rfl) (by decide) (by decide)) q1a q1c (g := (mkF m 5 #[.val (.ref a1)] [(.ref a1)])) rfl (by rw [hml]; rfl) (Steps.refl _) (argsL := []) (rest := []) (lenOf pd_4 rfl) rfl (by show 2 * 0 + _ ≤ _; exact Nat.le_of_eq rfl) (hb hby d_prog_17_method_2_5) (fun _ _ => ⟨rfl, e0, (by decide : 0 + 0 ≤ _), (by decide : 0 + 0 ≤ _)⟩)
  dsimp only [Pt.U, Pt.locs, Pt.cells, Pt.slots] at X1 l1 y1 z1 st1 hQ1
  have X1 := own_to X1 l1 y1 z1
  obtain ⟨rfl, N1q, e1⟩ := hQ1
  have N1 := Fr.app N0 N1q
  obtain ⟨fs, hr, hrun, hended, hW, hsame⟩ := X1.leave (v := (some (.int (0 : Int32)))) (fun h => by rw [Bd.returns] at h; cases h)
  refine ⟨_, _, pre0 _ ?_, hrun, hended, _, _, rfl, ?_, ⟨_, rfl⟩, hW, hsame.mono (by decide) (by decide)⟩
  · refine XS.aloadN X0.here hx rfl (hb hby d_prog_17_method_2_0) rfl rfl ?_
    refine XS.ifnullNo X0.here hx rfl (hb hby d_prog_17_method_2_1) rfl ?_
    refine XS.aloadN X0.here hx rfl (hb hby d_prog_17_method_2_4) rfl rfl ?_
    refine st1.trans ?_
    refine XS.ifYes X1.here hx rfl (pc0 := 8) (pc' := 24) rfl (hb hby d_prog_17_method_2_8) rfl ((if0 _ _).trans (feq (by decide : ¬ ((1 : Int32) = (0 : Int32)))).2) (by decide) (by decide) ?_
    refine XS.iconst X1.here hx rfl (hb hby d_prog_17_method_2_24) ?_
    exact retN X1 hx (t := .boolean) Bd.returns (by simp) (hb hby d_prog_17_method_2_25) hr
  · show Q_rc5_traceAsked Z a1 a2 k3 h0 n0 _ T1.heap _
    rw [e1]
    exact ⟨rfl, N1, rfl⟩
def Q_rc11_compress (Z : State) (a1 : Addr) (a2 : Addr) (k3 : ClassId) (i4 : Int32) (h0 : Heap) (n0 : Nat) (v : Option Value) (h : Heap) (L : List Loc) : Prop := v = some (.int (0 : Int32)) ∧ Fr n0 L ∧ h = h0
set_option maxRecDepth 65536 in
set_option maxHeartbeats 40000000 in
theorem rc11_compress (l : Launch) (Z : State) (a0 : Array Value) (hw : ∀ d ∈ tables_1, d.before a0 Z = true) (ws : List Jvm.Cond) (cs : Int32) (hS : SB Z cs) (a1 : Addr) (a2 : Addr) (k3 : ClassId) (i4 : Int32) (h0 : Heap) (n0 : Nat) (O0 : Old Z n0 h0) (g_a1 : n0 ≤ a1) (g_a2 : n0 ≤ a2) (V_a1 : Arv Z h0 a1 k3 .char (1 : Int32) [(.int i4)] (.int (0 : Int32))) (hy1 : (255 : Int32) < i4) :
    Met l my_5 jdk_52_method_21_code 7 (some .int) ws ({ frames := 0, cells := 0, slots := 0, locals := 0 } : Room) #[(.ref a1), (.int (0 : Int32)), (.ref a2), (.int (0 : Int32)), (.int (1 : Int32))] Z h0 (Q_rc11_compress Z a1 a2 k3 i4 h0 n0) := by
  refine MetFree.of_bodySF (plainFor_of_name pn_3) hisR ?_
  intro p e s m args below meth c s₁ Bd hml0 hP hK
  obtain ⟨rfl, hZ, hh⟩ := hP
  have hx := Bd.exec
  have hby := Bd.bytes
  have hml : c.maxLocals = 7 := hml0
  have hown : s.vm.findClass nString_1 = some m.cls := findClass_of_methodNamed Bd.named
  have hnm := (name_of_methodNamed Bd.named Bd.method).1
  have X0 : Stand p l e ({ frames := 0, cells := 0, slots := 0, locals := 0 } : Room) s m #[(.ref a1), (.int (0 : Int32)), (.ref a2), (.int (0 : Int32)), (.int (1 : Int32))] below meth c s₁ [] 0 0 := Stand.of_body Bd
  have e0 : s₁.heap = h0 := by rw [← hh, Bd.state]; rfl
  have N0 := Fr.nil n0
  obtain ⟨f₀, hf₀⟩ : ∃ f, f = entryFrame m #[(.ref a1), (.int (0 : Int32)), (.ref a2), (.int (0 : Int32)), (.int (1 : Int32))] 7 := ⟨_, rfl⟩
  rw [← hf₀]
  have pre0 : Go p e below s₁ f₀ s₁ (mkF m 0 #[.val (.ref a1), .val (.int (0 : Int32)), .val (.ref a2), .val (.int (0 : Int32)), .val (.int (1 : Int32)), .unset, .unset] []) := fun t k => castTop (hf₀.trans (ef_rc11_compress m (a1) ((0 : Int32)) (a2) ((0 : Int32)) ((1 : Int32)))) k
  obtain ⟨c1, Ar1, q1, S1, M1, Hh1, G1⟩ := (id V_a1)
  have hin1 : ¬ ((0 : Int32) < 0 ∨ c1.slots.size ≤ ((0 : Int32)).toNatClampNeg) := inb_of S1 ⟨by decide, by decide⟩
  have hat1 : c1.slots[((0 : Int32)).toNatClampNeg]? = some (.int i4) := Hh1.at hin1 rfl
  obtain ⟨fs, hr, hrun, hended, hW, hsame⟩ := X0.leave (v := (some (.int (0 : Int32)))) (fun h => by rw [Bd.returns] at h; cases h)
  refine ⟨_, _, pre0 _ ?_, hrun, hended, _, _, rfl, ?_, ⟨_, rfl⟩, hW, hsame.mono (by decide) (by decide)⟩
  · refine XS.iconst X0.here hx rfl (hb hby d_jdk_52_method_21_0) ?_
    refine XS.istore X0.here hx rfl (hb hby d_jdk_52_method_21_1) rfl (l' := #[.val (.ref a1), .val (.int (0 : Int32)), .val (.ref a2), .val (.int (0 : Int32)), .val (.int (1 : Int32)), .val (.int (0 : Int32)), .unset]) rfl ?_
    refine XS.iload X0.here hx rfl (hb hby d_jdk_52_method_21_3) rfl ?_
    refine XS.iload X0.here hx rfl (hb hby d_jdk_52_method_21_5) rfl ?_
    refine XS.icmpNo X0.here hx rfl (hb hby d_jdk_52_method_21_7) rfl (tlt (by decide : (0 : Int32) < (1 : Int32))).2.1 ?_
    refine XS.aloadN X0.here hx rfl (hb hby d_jdk_52_method_21_10) rfl rfl ?_
    refine XS.iloadN X0.here hx rfl (hb hby d_jdk_52_method_21_11) rfl ?_
    refine X0.caload hx (j := (0 : Int32)) (v := (.int i4)) (by rw [e0]; exact Ar1.1) (State.isArrayOf_alike hZ.alike Ar1.2.1) Ar1.2.2 hin1 hat1 (g := (mkF m 12 #[.val (.ref a1), .val (.int (0 : Int32)), .val (.ref a2), .val (.int (0 : Int32)), .val (.int (1 : Int32)), .val (.int (0 : Int32)), .unset] [(.int (0 : Int32)), (.ref a1)])) rfl rfl (hb hby d_jdk_52_method_21_12) _ ?_
    refine XS.istore X0.here hx rfl (hb hby d_jdk_52_method_21_13) rfl (l' := #[.val (.ref a1), .val (.int (0 : Int32)), .val (.ref a2), .val (.int (0 : Int32)), .val (.int (1 : Int32)), .val (.int (0 : Int32)), .val (.int i4)]) rfl ?_
    refine XS.iload X0.here hx rfl (hb hby d_jdk_52_method_21_15) rfl ?_
    refine XS.sipush X0.here hx rfl (hb hby d_jdk_52_method_21_17) ?_
    refine XS.icmpNo X0.here hx rfl (hb hby d_jdk_52_method_21_20) rfl (tlt hy1).2.2.2 ?_
    refine XS.iload X0.here hx rfl (hb hby d_jdk_52_method_21_23) rfl ?_
    exact retI X0 hx Bd.returns (hb hby d_jdk_52_method_21_25) hr
  · show Q_rc11_compress Z a1 a2 k3 i4 h0 n0 _ s₁.heap _
    rw [e0]
    exact ⟨rfl, N0, rfl⟩
def Q_rc14_newBytesLength (Z : State)  (h0 : Heap) (n0 : Nat) (v : Option Value) (h : Heap) (L : List Loc) : Prop := v = some (.int (2 : Int32)) ∧ Fr n0 L ∧ h = h0
set_option maxRecDepth 65536 in
set_option maxHeartbeats 40000000 in
theorem rc14_newBytesLength (l : Launch) (Z : State) (a0 : Array Value) (hw : ∀ d ∈ tables_1, d.before a0 Z = true) (ws : List Jvm.Cond) (cs : Int32) (hS : SB Z cs)  (h0 : Heap) (n0 : Nat) (O0 : Old Z n0 h0)  :
    Met l my_6 jdk_52_method_3_code 1 (some .int) ws ({ frames := 0, cells := 0, slots := 0, locals := 0 } : Room) #[(.int (1 : Int32))] Z h0 (Q_rc14_newBytesLength Z h0 n0) := by
  refine MetFree.of_bodySF (plainFor_of_name pn_3) hisR ?_
  intro p e s m args below meth c s₁ Bd hml0 hP hK
  obtain ⟨rfl, hZ, hh⟩ := hP
  have hx := Bd.exec
  have hby := Bd.bytes
  have hml : c.maxLocals = 1 := hml0
  have hown : s.vm.findClass nString_1 = some m.cls := findClass_of_methodNamed Bd.named
  have hnm := (name_of_methodNamed Bd.named Bd.method).1
  have X0 : Stand p l e ({ frames := 0, cells := 0, slots := 0, locals := 0 } : Room) s m #[(.int (1 : Int32))] below meth c s₁ [] 0 0 := Stand.of_body Bd
  have e0 : s₁.heap = h0 := by rw [← hh, Bd.state]; rfl
  have N0 := Fr.nil n0
  obtain ⟨f₀, hf₀⟩ : ∃ f, f = entryFrame m #[(.int (1 : Int32))] 1 := ⟨_, rfl⟩
  rw [← hf₀]
  have pre0 : Go p e below s₁ f₀ s₁ (mkF m 0 #[.val (.int (1 : Int32))] []) := fun t k => castTop (hf₀.trans (ef_rc14_newBytesLength m ((1 : Int32)))) k
  obtain ⟨fs, hr, hrun, hended, hW, hsame⟩ := X0.leave (v := (some (.int (2 : Int32)))) (fun h => by rw [Bd.returns] at h; cases h)
  refine ⟨_, _, pre0 _ ?_, hrun, hended, _, _, rfl, ?_, ⟨_, rfl⟩, hW, hsame.mono (by decide) (by decide)⟩
  · refine XS.iloadN X0.here hx rfl (hb hby d_jdk_52_method_3_0) rfl ?_
    refine XS.ifYes X0.here hx rfl (pc0 := 1) (pc' := 12) rfl (hb hby d_jdk_52_method_3_1) rfl ((if0 _ _).trans (flt (by decide : ¬ ((1 : Int32) < (0 : Int32)))).2.1) (by decide) (by decide) ?_
    refine XS.iloadN X0.here hx rfl (hb hby d_jdk_52_method_3_12) rfl ?_
    refine X0.ldcInt hx hown (mvT hZ (wq hw 67 rfl)) (g := (mkF m 13 #[.val (.int (1 : Int32))] [(.int (1 : Int32))])) rfl (hb hby d_jdk_52_method_3_13) _ ?_
    refine XS.icmpYes X0.here hx rfl (pc0 := 15) (pc' := 55) rfl (hb hby d_jdk_52_method_3_15) rfl (tlt (by decide : (1 : Int32) < (1073741823 : Int32))).1 (by decide) (by decide) ?_
    refine XS.iloadN X0.here hx rfl (hb hby d_jdk_52_method_3_55) rfl ?_
    refine XS.iconst X0.here hx rfl (hb hby d_jdk_52_method_3_56) ?_
    refine XS.ishl X0.here hx rfl (hb hby d_jdk_52_method_3_57) rfl ?_
    show Steps p.tables e below (s₁.setTop (mkF m 58 #[.val (.int (1 : Int32))] [(.int (2 : Int32))])) _
    exact retI X0 hx Bd.returns (hb hby d_jdk_52_method_3_58) hr
  · show Q_rc14_newBytesLength Z h0 n0 _ s₁.heap _
    rw [e0]
    exact ⟨rfl, N0, rfl⟩
def Q_rc13_newBytesFor (Z : State)  (h0 : Heap) (n0 : Nat) (v : Option Value) (h : Heap) (L : List Loc) : Prop := ∃ (b2 : Addr), ∃ (k2 : ClassId), v = some (.ref b2) ∧ Fr n0 L ∧ Keep h0 h [] ∧ h0.size ≤ b2 ∧ Arv Z h b2 k2 .byte (2 : Int32) [(.int (0 : Int32)), (.int (0 : Int32))] (.int (0 : Int32))
set_option maxRecDepth 65536 in
set_option maxHeartbeats 40000000 in
theorem rc13_newBytesFor (l : Launch) (Z : State) (a0 : Array Value) (hw : ∀ d ∈ tables_1, d.before a0 Z = true) (ws : List Jvm.Cond) (cs : Int32) (hS : SB Z cs)  (h0 : Heap) (n0 : Nat) (O0 : Old Z n0 h0)  :
    Met l my_7 jdk_52_method_2_code 1 (some (.array .byte)) ws ({ frames := 1, cells := 1, slots := 2, locals := 12 } : Room) #[(.int (1 : Int32))] Z h0 (Q_rc13_newBytesFor Z h0 n0) := by
  refine MetFree.of_bodySF (plainFor_of_name pn_3) hisR ?_
  intro p e s m args below meth c s₁ Bd hml0 hP hK
  obtain ⟨rfl, hZ, hh⟩ := hP
  have hx := Bd.exec
  have hby := Bd.bytes
  have hml : c.maxLocals = 1 := hml0
  have hown : s.vm.findClass nString_1 = some m.cls := findClass_of_methodNamed Bd.named
  have hnm := (name_of_methodNamed Bd.named Bd.method).1
  have X0 : Stand p l e ({ frames := 1, cells := 1, slots := 2, locals := 12 } : Room) s m #[(.int (1 : Int32))] below meth c s₁ [] 0 0 := Stand.of_body Bd
  have e0 : s₁.heap = h0 := by rw [← hh, Bd.state]; rfl
  have N0 := Fr.nil n0
  obtain ⟨f₀, hf₀⟩ : ∃ f, f = entryFrame m #[(.int (1 : Int32))] 1 := ⟨_, rfl⟩
  rw [← hf₀]
  have pre0 : Go p e below s₁ f₀ s₁ (mkF m 0 #[.val (.int (1 : Int32))] []) := fun t k => castTop (hf₀.trans (ef_rc13_newBytesFor m ((1 : Int32)))) k
  obtain ⟨_, _, ⟨T1, L1, k1, n1⟩, -, X1, ⟨Lc1, hQ1, l1, y1, z1⟩, st1⟩ := Jvm.LawKit.callS X0 hx (y := my_6) hown (mvT hZ (wq hw 64 rfl)) (mvT hZ (wq hw 65 rfl)) (mvT hZ (wq hw 39 rfl)) (mvT hZ (wq hw 66 rfl)) (by decide) (backOf (W := 0) (rc14_newBytesLength l Z a0 hw [] cs hS  h0 n0 O0 ) hZ (wq hw 66 rfl) (wq hw 39 rfl) (by decide) (by decide)) (g := (mkF m 1 #[.val (.int (1 : Int32))] [(.int (1 : Int32))])) rfl (by rw [hml]; rfl) (argsL := [(.int (1 : Int32))]) (rest := []) (lenOf pd_6 rfl) rfl (by show 2 * 0 + _ ≤ _; exact Nat.le_of_eq rfl) (hb hby d_jdk_52_method_2_1) (fun _ _ => ⟨rfl, e0, (by decide : 0 + 0 ≤ _), (by decide : 0 + 0 ≤ _)⟩)
  dsimp only [Pt.U, Pt.locs, Pt.cells, Pt.slots] at X1 l1 y1 z1 st1 hQ1
  have X1 := own_to X1 l1 y1 z1
  obtain ⟨rfl, N1q, e1⟩ := hQ1
  have N1 := Fr.app N0 N1q
  obtain ⟨T2, h2, k2, X2, e2, E2, A2, st2⟩ := newP X1 hx hZ (wq hw 20 rfl) e1 (g := (mkF m 4 #[.val (.int (1 : Int32))] [(.int (2 : Int32))])) rfl (hb hby d_jdk_52_method_2_4) rfl (by decide) (cap := 2) (by decide) (by decide) (by decide) (by decide)
  obtain ⟨b2, gb2⟩ : ∃ z, z = h0.size := ⟨_, rfl⟩
  rw [← gb2] at A2 st2
  have g3 : n0 ≤ b2 := Nat.le_trans (Nat.le_of_eq O0.1.symm) (Nat.le_trans O0.2.1 (Nat.le_of_eq gb2.symm))
  have s4 : h0.size ≤ b2 := Nat.le_trans (Keep.refl h0 []).1 (Nat.le_of_eq gb2.symm)
  have O5 : Old Z n0 h2 := Old.ext O0 E2
  have K6 : Keep h0 h2 [] := (Keep.refl h0 []).ext E2
  have v7 : Arv Z h2 b2 k2 .byte (2 : Int32) [(.int (0 : Int32)), (.int (0 : Int32))] (.int (0 : Int32)) := (Arv.new A2 (by decide)).pad (pad_rep [] (.int (0 : Int32)) 2)
  obtain ⟨fs, hr, hrun, hended, hW, hsame⟩ := X2.leave (v := (some (.ref b2))) (fun h => by rw [Bd.returns] at h; cases h)
  refine ⟨_, _, pre0 _ ?_, hrun, hended, _, _, rfl, ?_, ⟨_, rfl⟩, hW, hsame.mono (by decide) (by decide)⟩
  · refine XS.iloadN X0.here hx rfl (hb hby d_jdk_52_method_2_0) rfl ?_
    refine st1 _ ?_
    refine st2 _ ?_
    exact retOut X2 hx Bd.returns rfl (Or.inr (Or.inr (Or.inr (Or.inr ⟨rfl, rfl, rfl⟩)))) (hb hby d_jdk_52_method_2_6) hr
  · show Q_rc13_newBytesFor Z h0 n0 _ T2.heap _
    rw [e2]
    exact ⟨b2, k2, rfl, N1, K6, s4, v7⟩
def Q_rc15_putChar (Z : State) (a1 : Addr) (i2 : Int32) (k3 : ClassId) (h0 : Heap) (n0 : Nat) (v : Option Value) (h : Heap) (L : List Loc) : Prop := v = none ∧ Fr n0 L ∧ Keep h0 h [a1] ∧ Arv Z h a1 k3 .byte (2 : Int32) [(.int (nar .byte ((i2 >>> ((0 : Int32) &&& 31)).toInt8.toInt32))), (.int (nar .byte ((i2 >>> ((8 : Int32) &&& 31)).toInt8.toInt32)))] (.int (0 : Int32))
set_option maxRecDepth 65536 in
set_option maxHeartbeats 40000000 in
theorem rc15_putChar (l : Launch) (Z : State) (a0 : Array Value) (hw : ∀ d ∈ tables_1, d.before a0 Z = true) (ws : List Jvm.Cond) (cs : Int32) (hS : SB Z cs) (a1 : Addr) (i2 : Int32) (k3 : ClassId) (h0 : Heap) (n0 : Nat) (O0 : Old Z n0 h0) (g_a1 : n0 ≤ a1) (V_a1 : Arv Z h0 a1 k3 .byte (2 : Int32) [(.int (0 : Int32)), (.int (0 : Int32))] (.int (0 : Int32))) :
    Met l my_8 jdk_52_method_4_code 3 none ws ({ frames := 0, cells := 0, slots := 0, locals := 0 } : Room) #[(.ref a1), (.int (0 : Int32)), (.int i2)] Z h0 (Q_rc15_putChar Z a1 i2 k3 h0 n0) := by
  refine MetFree.of_bodySF (plainFor_of_name pn_3) hisR ?_
  intro p e s m args below meth c s₁ Bd hml0 hP hK
  obtain ⟨rfl, hZ, hh⟩ := hP
  have hx := Bd.exec
  have hby := Bd.bytes
  have hml : c.maxLocals = 3 := hml0
  have hown : s.vm.findClass nString_1 = some m.cls := findClass_of_methodNamed Bd.named
  have hnm := (name_of_methodNamed Bd.named Bd.method).1
  have X0 : Stand p l e ({ frames := 0, cells := 0, slots := 0, locals := 0 } : Room) s m #[(.ref a1), (.int (0 : Int32)), (.int i2)] below meth c s₁ [] 0 0 := Stand.of_body Bd
  have e0 : s₁.heap = h0 := by rw [← hh, Bd.state]; rfl
  have N0 := Fr.nil n0
  obtain ⟨f₀, hf₀⟩ : ∃ f, f = entryFrame m #[(.ref a1), (.int (0 : Int32)), (.int i2)] 3 := ⟨_, rfl⟩
  rw [← hf₀]
  have pre0 : Go p e below s₁ f₀ s₁ (mkF m 0 #[.val (.ref a1), .val (.int (0 : Int32)), .val (.int i2)] []) := fun t k => castTop (hf₀.trans (ef_rc15_putChar m (a1) ((0 : Int32)) (i2))) k
  obtain ⟨T1, X1, e1, st1⟩ := getS2 X0 hx hZ hown (host := "") (Or.inl (wq hw 71 rfl)) Via.refl e0 (hS.2.2.1.ext O0.2) (g := (mkF m 0 #[.val (.ref a1), .val (.int (0 : Int32)), .val (.int i2)] [])) rfl (hb hby d_jdk_52_method_4_0)
  obtain ⟨T2, X2, e2, st2⟩ := getS2 X1 hx hZ hown (host := "") (Or.inl (wq hw 72 rfl)) Via.refl e1 (hS.2.2.2.1.ext O0.2) (g := (mkF m 38 #[.val (.ref a1), .val (.int (1 : Int32)), .val (.int i2)] [(.int i2), (.int (0 : Int32)), (.ref a1)])) rfl (hb hby d_jdk_52_method_4_38)
  obtain ⟨c3, Ar3, q3, S3, M3, Hh3, G3⟩ := (id V_a1)
  have hin3 : ¬ ((0 : Int32) < 0 ∨ c3.slots.size ≤ ((0 : Int32)).toNatClampNeg) := inb_of S3 ⟨by decide, by decide⟩
  obtain ⟨T4, h4, X4, e4, W4, st4⟩ := stB X2 hx hZ e2 Ar3 (j := (0 : Int32)) hin3 (g := (mkF m 43 #[.val (.ref a1), .val (.int (1 : Int32)), .val (.int i2)] [(.int ((i2 >>> ((0 : Int32) &&& 31)).toInt8.toInt32)), (.int (0 : Int32)), (.ref a1)])) rfl rfl (hb hby d_jdk_52_method_4_43)
  have v5 : Arv Z h4 a1 k3 .byte (2 : Int32) [(.int (nar .byte ((i2 >>> ((0 : Int32) &&& 31)).toInt8.toInt32))), (.int (0 : Int32))] (.int (0 : Int32)) := Arv.set Ar3 q3 S3 M3 Hh3 G3 (fits_nar_byte _) W4 0 rfl (Nat.le_of_ble_eq_true rfl)
  have N4 := Fr.snoc X4 N0 g_a1
  have O6 : Old Z n0 h4 := Old.wr O0 W4 g_a1
  have K7 : Keep h0 h4 [a1] := (Keep.refl h0 [a1]).wr W4 (Or.inl (List.mem_of_getElem? (i := 0) rfl))
  obtain ⟨T8, X8, e8, st8⟩ := getS2 X4 hx hZ hown (host := "") (Or.inl (wq hw 73 rfl)) Via.refl e4 (hS.2.2.2.2.ext O6.2) (g := (mkF m 47 #[.val (.ref a1), .val (.int (1 : Int32)), .val (.int i2)] [(.int i2), (.int (1 : Int32)), (.ref a1)])) rfl (hb hby d_jdk_52_method_4_47)
  obtain ⟨c9, Ar9, q9, S9, M9, Hh9, G9⟩ := (id v5)
  have hin9 : ¬ ((1 : Int32) < 0 ∨ c9.slots.size ≤ ((1 : Int32)).toNatClampNeg) := inb_of S9 ⟨by decide, by decide⟩
  obtain ⟨T10, h10, X10, e10, W10, st10⟩ := stB X8 hx hZ e8 Ar9 (j := (1 : Int32)) hin9 (g := (mkF m 52 #[.val (.ref a1), .val (.int (1 : Int32)), .val (.int i2)] [(.int ((i2 >>> ((8 : Int32) &&& 31)).toInt8.toInt32)), (.int (1 : Int32)), (.ref a1)])) rfl rfl (hb hby d_jdk_52_method_4_52)
  have v11 : Arv Z h10 a1 k3 .byte (2 : Int32) [(.int (nar .byte ((i2 >>> ((0 : Int32) &&& 31)).toInt8.toInt32))), (.int (nar .byte ((i2 >>> ((8 : Int32) &&& 31)).toInt8.toInt32)))] (.int (0 : Int32)) := Arv.set Ar9 q9 S9 M9 Hh9 G9 (fits_nar_byte _) W10 1 rfl (Nat.le_of_ble_eq_true rfl)
  have N10 := Fr.snoc X10 N4 g_a1
  have O12 : Old Z n0 h10 := Old.wr O6 W10 g_a1
  have K13 : Keep h0 h10 [a1] := K7.wr W10 (Or.inl (List.mem_of_getElem? (i := 0) rfl))
  obtain ⟨fs, hr, hrun, hended, hW, hsame⟩ := X10.leave (v := none) (fun _ => rfl)
  refine ⟨_, _, pre0 _ ?_, hrun, hended, _, _, rfl, ?_, ⟨_, rfl⟩, hW, hsame.mono (by decide) (by decide)⟩
  · refine st1 _ ?_
    refine XS.ifYes X1.here hx rfl (pc0 := 3) (pc' := 28) rfl (hb hby d_jdk_52_method_4_3) rfl ((if0 _ _).trans (feq (by decide : ¬ ((1 : Int32) = (0 : Int32)))).2) (by decide) (by decide) ?_
    refine XS.iloadN X1.here hx rfl (hb hby d_jdk_52_method_4_28) rfl ?_
    refine XS.iconst X1.here hx rfl (hb hby d_jdk_52_method_4_29) ?_
    refine XS.ishl X1.here hx rfl (hb hby d_jdk_52_method_4_30) rfl ?_
    show Steps p.tables e below (T1.setTop (mkF m 31 #[.val (.ref a1), .val (.int (0 : Int32)), .val (.int i2)] [(.int (0 : Int32))])) _
    refine XS.istoreN X1.here hx rfl (hb hby d_jdk_52_method_4_31) rfl (l' := #[.val (.ref a1), .val (.int (0 : Int32)), .val (.int i2)]) rfl ?_
    refine XS.aloadN X1.here hx rfl (hb hby d_jdk_52_method_4_32) rfl rfl ?_
    refine XS.iloadN X1.here hx rfl (hb hby d_jdk_52_method_4_33) rfl ?_
    refine XS.iinc X1.here hx rfl (hb hby d_jdk_52_method_4_34) rfl (l' := #[.val (.ref a1), .val (.int (1 : Int32)), .val (.int i2)]) rfl ?_
    refine XS.iloadN X1.here hx rfl (hb hby d_jdk_52_method_4_37) rfl ?_
    refine st2 _ ?_
    refine XS.ishr X2.here hx rfl (hb hby d_jdk_52_method_4_41) rfl ?_
    refine XS.i2b X2.here hx rfl (hb hby d_jdk_52_method_4_42) rfl ?_
    refine st4 _ ?_
    refine XS.aloadN X4.here hx rfl (hb hby d_jdk_52_method_4_44) rfl rfl ?_
    refine XS.iloadN X4.here hx rfl (hb hby d_jdk_52_method_4_45) rfl ?_
    refine XS.iloadN X4.here hx rfl (hb hby d_jdk_52_method_4_46) rfl ?_
    refine st8 _ ?_
    refine XS.ishr X8.here hx rfl (hb hby d_jdk_52_method_4_50) rfl ?_
    refine XS.i2b X8.here hx rfl (hb hby d_jdk_52_method_4_51) rfl ?_
    refine st10 _ ?_
    exact X10.returnOut hx Bd.returns (hb hby d_jdk_52_method_4_53) hr
  · show Q_rc15_putChar Z a1 i2 k3 h0 n0 _ T10.heap _
    rw [e10]
    exact ⟨rfl, N10, K13, v11⟩
def Q_rc12_toBytes (Z : State) (a1 : Addr) (k2 : ClassId) (i3 : Int32) (h0 : Heap) (n0 : Nat) (v : Option Value) (h : Heap) (L : List Loc) : Prop := ∃ (x1_b2 : Addr), ∃ (x1_k2 : ClassId), v = some (.ref x1_b2) ∧ Fr n0 L ∧ Keep h0 h [] ∧ h0.size ≤ x1_b2 ∧ Arv Z h x1_b2 x1_k2 .byte (2 : Int32) [(.int (nar .byte ((i3 >>> ((0 : Int32) &&& 31)).toInt8.toInt32))), (.int (nar .byte ((i3 >>> ((8 : Int32) &&& 31)).toInt8.toInt32)))] (.int (0 : Int32))
set_option maxRecDepth 65536 in
set_option maxHeartbeats 40000000 in
theorem rc12_toBytes (l : Launch) (Z : State) (a0 : Array Value) (hw : ∀ d ∈ tables_1, d.before a0 Z = true) (ws : List Jvm.Cond) (cs : Int32) (hS : SB Z cs) (a1 : Addr) (k2 : ClassId) (i3 : Int32) (h0 : Heap) (n0 : Nat) (O0 : Old Z n0 h0) (g_a1 : n0 ≤ a1) (V_a1 : Arv Z h0 a1 k2 .char (1 : Int32) [(.int i3)] (.int (0 : Int32))) :
    Met l my_9 jdk_52_method_14_code 5 (some (.array .byte)) ws ({ frames := 2, cells := 1, slots := 2, locals := 24 } : Room) #[(.ref a1), (.int (0 : Int32)), (.int (1 : Int32))] Z h0 (Q_rc12_toBytes Z a1 k2 i3 h0 n0) := by
  refine MetFree.of_bodySF (plainFor_of_name pn_3) hisR ?_
  intro p e s m args below meth c s₁ Bd hml0 hP hK
  obtain ⟨rfl, hZ, hh⟩ := hP
  have hx := Bd.exec
  have hby := Bd.bytes
  have hml : c.maxLocals = 5 := hml0
  have hown : s.vm.findClass nString_1 = some m.cls := findClass_of_methodNamed Bd.named
  have hnm := (name_of_methodNamed Bd.named Bd.method).1
  have X0 : Stand p l e ({ frames := 2, cells := 1, slots := 2, locals := 24 } : Room) s m #[(.ref a1), (.int (0 : Int32)), (.int (1 : Int32))] below meth c s₁ [] 0 0 := Stand.of_body Bd
  have e0 : s₁.heap = h0 := by rw [← hh, Bd.state]; rfl
  have N0 := Fr.nil n0
  obtain ⟨f₀, hf₀⟩ : ∃ f, f = entryFrame m #[(.ref a1), (.int (0 : Int32)), (.int (1 : Int32))] 5 := ⟨_, rfl⟩
  rw [← hf₀]
  have pre0 : Go p e below s₁ f₀ s₁ (mkF m 0 #[.val (.ref a1), .val (.int (0 : Int32)), .val (.int (1 : Int32)), .unset, .unset] []) := fun t k => castTop (hf₀.trans (ef_rc12_toBytes m (a1) ((0 : Int32)) ((1 : Int32)))) k
  obtain ⟨_, _, ⟨T1, L1, k1, n1⟩, -, X1, ⟨Lc1, hQ1, l1, y1, z1⟩, st1⟩ := Jvm.LawKit.callS X0 hx (y := my_7) hown (mvT hZ (wq hw 61 rfl)) (mvT hZ (wq hw 62 rfl)) (mvT hZ (wq hw 39 rfl)) (mvT hZ (wq hw 63 rfl)) (by decide) (backOf (W := 0) (rc13_newBytesFor l Z a0 hw [] cs hS  h0 n0 O0 ) hZ (wq hw 63 rfl) (wq hw 39 rfl) (by decide) (by decide)) (g := (mkF m 1 #[.val (.ref a1), .val (.int (0 : Int32)), .val (.int (1 : Int32)), .unset, .unset] [(.int (1 : Int32))])) rfl (by rw [hml]; rfl) (argsL := [(.int (1 : Int32))]) (rest := []) (lenOf pd_7 rfl) rfl (by show 2 * 0 + _ ≤ _; exact Nat.le_of_eq rfl) (hb hby d_jdk_52_method_14_1) (fun _ _ => ⟨rfl, e0, (by decide : 0 + 1 ≤ _), (by decide : 0 + 2 ≤ _)⟩)
  dsimp only [Pt.U, Pt.locs, Pt.cells, Pt.slots] at X1 l1 y1 z1 st1 hQ1
  have X1 := own_to X1 l1 y1 z1
  obtain ⟨x1_b2, x1_k2, rfl, N1q, K1, sz1_b2, q1_0⟩ := hQ1
  have N1 := Fr.app N0 N1q
  have g2 : n0 ≤ x1_b2 := Nat.le_trans (Nat.le_of_eq O0.1.symm) (Nat.le_trans O0.2.1 sz1_b2)
  have s3 : h0.size ≤ x1_b2 := Nat.le_trans (Keep.refl h0 []).1 sz1_b2
  have ne4 : a1 ≠ x1_b2 := Nat.ne_of_lt (Nat.lt_of_lt_of_le V_a1.lt sz1_b2)
  have O5 : Old Z n0 T1.heap := Old.keep O0 K1 all0
  have K6 : Keep h0 T1.heap [] := (Keep.refl h0 []).trans K1 all0
  have t7 : Arv Z T1.heap a1 k2 .char (1 : Int32) [(.int i3)] (.int (0 : Int32)) := (V_a1.keep K1 nin0)
  obtain ⟨c8, Ar8, q8, S8, M8, Hh8, G8⟩ := (id t7)
  have hin8 : ¬ ((0 : Int32) < 0 ∨ c8.slots.size ≤ ((0 : Int32)).toNatClampNeg) := inb_of S8 ⟨by decide, by decide⟩
  have hat8 : c8.slots[((0 : Int32)).toNatClampNeg]? = some (.int i3) := Hh8.at hin8 rfl
  obtain ⟨_, _, ⟨T9, L9, k9, n9⟩, -, X9, ⟨Lc9, hQ9, l9, y9, z9⟩, st9⟩ := Jvm.LawKit.callS X1 hx (y := my_8) hown (mvT hZ (wq hw 68 rfl)) (mvT hZ (wq hw 69 rfl)) (mvT hZ (wq hw 39 rfl)) (mvT hZ (wq hw 70 rfl)) (by decide) (backOf (W := 0) (rc15_putChar l Z a0 hw [] cs hS x1_b2 i3 x1_k2 T1.heap n0 O5 g2 q1_0) hZ (wq hw 70 rfl) (wq hw 39 rfl) (by decide) (by decide)) (g := (mkF m 20 #[.val (.ref a1), .val (.int (0 : Int32)), .val (.int (1 : Int32)), .val (.ref x1_b2), .val (.int (0 : Int32))] [(.int i3), (.int (0 : Int32)), (.ref x1_b2)])) rfl (by rw [hml]; rfl) (argsL := [(.ref x1_b2), (.int (0 : Int32)), (.int i3)]) (rest := []) (lenOf pd_8 rfl) rfl (by show 2 * 0 + _ ≤ _; exact Nat.le_of_eq rfl) (hb hby d_jdk_52_method_14_20) (fun _ _ => ⟨rfl, rfl, (by decide : 1 + 0 ≤ _), (by decide : 2 + 0 ≤ _)⟩)
  dsimp only [Pt.U, Pt.locs, Pt.cells, Pt.slots] at X9 l9 y9 z9 st9 hQ9
  have X9 := own_to X9 l9 y9 z9
  obtain ⟨rfl, N9q, K9, q9_0⟩ := hQ9
  have N9 := Fr.app N1 N9q
  have O10 : Old Z n0 T9.heap := Old.keep O5 K9 (allS g2 all0)
  have K11 : Keep h0 T9.heap [] := K6.trans K9 (allS (Or.inr s3) all0)
  obtain ⟨fs, hr, hrun, hended, hW, hsame⟩ := X9.leave (v := (some (.ref x1_b2))) (fun h => by rw [Bd.returns] at h; cases h)
  refine ⟨_, _, pre0 _ ?_, hrun, hended, _, _, rfl, ?_, ⟨_, rfl⟩, hW, hsame.mono (by decide) (by decide)⟩
  · refine XS.iloadN X0.here hx rfl (hb hby d_jdk_52_method_14_0) rfl ?_
    refine st1 _ ?_
    refine XS.astoreN X1.here hx rfl (hb hby d_jdk_52_method_14_4) rfl rfl (l' := #[.val (.ref a1), .val (.int (0 : Int32)), .val (.int (1 : Int32)), .val (.ref x1_b2), .unset]) rfl ?_
    refine XS.iconst X1.here hx rfl (hb hby d_jdk_52_method_14_5) ?_
    refine XS.istore X1.here hx rfl (hb hby d_jdk_52_method_14_6) rfl (l' := #[.val (.ref a1), .val (.int (0 : Int32)), .val (.int (1 : Int32)), .val (.ref x1_b2), .val (.int (0 : Int32))]) rfl ?_
    refine XS.iload X1.here hx rfl (hb hby d_jdk_52_method_14_8) rfl ?_
    refine XS.iloadN X1.here hx rfl (hb hby d_jdk_52_method_14_10) rfl ?_
    refine XS.icmpNo X1.here hx rfl (hb hby d_jdk_52_method_14_11) rfl (tlt (by decide : (0 : Int32) < (1 : Int32))).2.1 ?_
    refine XS.aloadN X1.here hx rfl (hb hby d_jdk_52_method_14_14) rfl rfl ?_
    refine XS.iload X1.here hx rfl (hb hby d_jdk_52_method_14_15) rfl ?_
    refine XS.aloadN X1.here hx rfl (hb hby d_jdk_52_method_14_17) rfl rfl ?_
    refine XS.iloadN X1.here hx rfl (hb hby d_jdk_52_method_14_18) rfl ?_
    refine X1.caload hx (j := (0 : Int32)) (v := (.int i3)) Ar8.1 (State.isArrayOf_alike hZ.alike Ar8.2.1) Ar8.2.2 hin8 hat8 (g := (mkF m 19 #[.val (.ref a1), .val (.int (0 : Int32)), .val (.int (1 : Int32)), .val (.ref x1_b2), .val (.int (0 : Int32))] [(.int (0 : Int32)), (.ref a1), (.int (0 : Int32)), (.ref x1_b2)])) rfl rfl (hb hby d_jdk_52_method_14_19) _ ?_
    refine st9 _ ?_
    refine XS.iinc X9.here hx rfl (hb hby d_jdk_52_method_14_23) rfl (l' := #[.val (.ref a1), .val (.int (1 : Int32)), .val (.int (1 : Int32)), .val (.ref x1_b2), .val (.int (0 : Int32))]) rfl ?_
    refine XS.iinc X9.here hx rfl (hb hby d_jdk_52_method_14_26) rfl (l' := #[.val (.ref a1), .val (.int (1 : Int32)), .val (.int (1 : Int32)), .val (.ref x1_b2), .val (.int (1 : Int32))]) rfl ?_
    refine XS.goto X9.here hx rfl (pc0 := 29) (pc' := 8) rfl (hb hby d_jdk_52_method_14_29) (by decide) (by decide) ?_
    refine XS.iload X9.here hx rfl (hb hby d_jdk_52_method_14_8) rfl ?_
    refine XS.iloadN X9.here hx rfl (hb hby d_jdk_52_method_14_10) rfl ?_
    refine XS.icmpYes X9.here hx rfl (pc0 := 11) (pc' := 32) rfl (hb hby d_jdk_52_method_14_11) rfl (flt (by decide : ¬ ((1 : Int32) < (1 : Int32)))).2.1 (by decide) (by decide) ?_
    refine XS.aloadN X9.here hx rfl (hb hby d_jdk_52_method_14_32) rfl rfl ?_
    exact retOut X9 hx Bd.returns rfl (Or.inr (Or.inr (Or.inr (Or.inr ⟨rfl, rfl, rfl⟩)))) (hb hby d_jdk_52_method_14_33) hr
  · show Q_rc12_toBytes Z a1 k2 i3 h0 n0 _ T9.heap _
    exact ⟨x1_b2, x1_k2, rfl, N9, K11, s3, q9_0⟩
def Q_rc16_getChar (Z : State) (a1 : Addr) (k2 : ClassId) (i3 : Int32) (i4 : Int32) (h0 : Heap) (n0 : Nat) (v : Option Value) (h : Heap) (L : List Loc) : Prop := v = some (.int (nar .char ((((i3 &&& (255 : Int32)) <<< ((0 : Int32) &&& 31)) ||| ((i4 &&& (255 : Int32)) <<< ((8 : Int32) &&& 31))).toUInt32.toUInt16.toUInt32.toInt32))) ∧ Fr n0 L ∧ h = h0
set_option maxRecDepth 65536 in
set_option maxHeartbeats 40000000 in
theorem rc16_getChar (l : Launch) (Z : State) (a0 : Array Value) (hw : ∀ d ∈ tables_1, d.before a0 Z = true) (ws : List Jvm.Cond) (cs : Int32) (hS : SB Z cs) (a1 : Addr) (k2 : ClassId) (i3 : Int32) (i4 : Int32) (h0 : Heap) (n0 : Nat) (O0 : Old Z n0 h0) (g_a1 : n0 ≤ a1) (V_a1 : Arv Z h0 a1 k2 .byte (2 : Int32) [(.int i3), (.int i4)] (.int (0 : Int32))) :
    Met l my_10 jdk_52_method_5_code 2 (some .char) ws ({ frames := 0, cells := 0, slots := 0, locals := 0 } : Room) #[(.ref a1), (.int (0 : Int32))] Z h0 (Q_rc16_getChar Z a1 k2 i3 i4 h0 n0) := by
  refine MetFree.of_bodySF (plainFor_of_name pn_3) hisR ?_
  intro p e s m args below meth c s₁ Bd hml0 hP hK
  obtain ⟨rfl, hZ, hh⟩ := hP
  have hx := Bd.exec
  have hby := Bd.bytes
  have hml : c.maxLocals = 2 := hml0
  have hown : s.vm.findClass nString_1 = some m.cls := findClass_of_methodNamed Bd.named
  have hnm := (name_of_methodNamed Bd.named Bd.method).1
  have X0 : Stand p l e ({ frames := 0, cells := 0, slots := 0, locals := 0 } : Room) s m #[(.ref a1), (.int (0 : Int32))] below meth c s₁ [] 0 0 := Stand.of_body Bd
  have e0 : s₁.heap = h0 := by rw [← hh, Bd.state]; rfl
  have N0 := Fr.nil n0
  obtain ⟨f₀, hf₀⟩ : ∃ f, f = entryFrame m #[(.ref a1), (.int (0 : Int32))] 2 := ⟨_, rfl⟩
  rw [← hf₀]
  have pre0 : Go p e below s₁ f₀ s₁ (mkF m 0 #[.val (.ref a1), .val (.int (0 : Int32))] []) := fun t k => castTop (hf₀.trans (ef_rc16_getChar m (a1) ((0 : Int32)))) k
  obtain ⟨T1, X1, e1, st1⟩ := getS2 X0 hx hZ hown (host := "") (Or.inl (wq hw 71 rfl)) Via.refl e0 (hS.2.2.1.ext O0.2) (g := (mkF m 0 #[.val (.ref a1), .val (.int (0 : Int32))] [])) rfl (hb hby d_jdk_52_method_5_0)
  obtain ⟨c2, Ar2, q2, S2, M2, Hh2, G2⟩ := (id V_a1)
  have hin2 : ¬ ((0 : Int32) < 0 ∨ c2.slots.size ≤ ((0 : Int32)).toNatClampNeg) := inb_of S2 ⟨by decide, by decide⟩
  have hat2 : c2.slots[((0 : Int32)).toNatClampNeg]? = some (.int i3) := Hh2.at hin2 rfl
  obtain ⟨T3, X3, e3, st3⟩ := getS2 X1 hx hZ hown (host := "") (Or.inl (wq hw 72 rfl)) Via.refl e1 (hS.2.2.2.1.ext O0.2) (g := (mkF m 42 #[.val (.ref a1), .val (.int (1 : Int32))] [(.int (i3 &&& (255 : Int32)))])) rfl (hb hby d_jdk_52_method_5_42)
  obtain ⟨c4, Ar4, q4, S4, M4, Hh4, G4⟩ := (id V_a1)
  have hin4 : ¬ ((1 : Int32) < 0 ∨ c4.slots.size ≤ ((1 : Int32)).toNatClampNeg) := inb_of S4 ⟨by decide, by decide⟩
  have hat4 : c4.slots[((1 : Int32)).toNatClampNeg]? = some (.int i4) := Hh4.at hin4 rfl
  obtain ⟨T5, X5, e5, st5⟩ := getS2 X3 hx hZ hown (host := "") (Or.inl (wq hw 73 rfl)) Via.refl e3 (hS.2.2.2.2.ext O0.2) (g := (mkF m 53 #[.val (.ref a1), .val (.int (1 : Int32))] [(.int (i4 &&& (255 : Int32))), (.int ((i3 &&& (255 : Int32)) <<< ((0 : Int32) &&& 31)))])) rfl (hb hby d_jdk_52_method_5_53)
  obtain ⟨fs, hr, hrun, hended, hW, hsame⟩ := X5.leave (v := (some (.int (nar .char ((((i3 &&& (255 : Int32)) <<< ((0 : Int32) &&& 31)) ||| ((i4 &&& (255 : Int32)) <<< ((8 : Int32) &&& 31))).toUInt32.toUInt16.toUInt32.toInt32))))) (fun h => by rw [Bd.returns] at h; cases h)
  refine ⟨_, _, pre0 _ ?_, hrun, hended, _, _, rfl, ?_, ⟨_, rfl⟩, hW, hsame.mono (by decide) (by decide)⟩
  · refine st1 _ ?_
    refine XS.ifYes X1.here hx rfl (pc0 := 3) (pc' := 28) rfl (hb hby d_jdk_52_method_5_3) rfl ((if0 _ _).trans (feq (by decide : ¬ ((1 : Int32) = (0 : Int32)))).2) (by decide) (by decide) ?_
    refine XS.iloadN X1.here hx rfl (hb hby d_jdk_52_method_5_28) rfl ?_
    refine XS.iconst X1.here hx rfl (hb hby d_jdk_52_method_5_29) ?_
    refine XS.ishl X1.here hx rfl (hb hby d_jdk_52_method_5_30) rfl ?_
    show Steps p.tables e below (T1.setTop (mkF m 31 #[.val (.ref a1), .val (.int (0 : Int32))] [(.int (0 : Int32))])) _
    refine XS.istoreN X1.here hx rfl (hb hby d_jdk_52_method_5_31) rfl (l' := #[.val (.ref a1), .val (.int (0 : Int32))]) rfl ?_
    refine XS.aloadN X1.here hx rfl (hb hby d_jdk_52_method_5_32) rfl rfl ?_
    refine XS.iloadN X1.here hx rfl (hb hby d_jdk_52_method_5_33) rfl ?_
    refine XS.iinc X1.here hx rfl (hb hby d_jdk_52_method_5_34) rfl (l' := #[.val (.ref a1), .val (.int (1 : Int32))]) rfl ?_
    refine X1.baloadBytes hx (j := (0 : Int32)) (v := (.int i3)) (by rw [e1]; exact Ar2.1) (State.isArrayOf_alike hZ.alike Ar2.2.1) Ar2.2.2 hin2 hat2 (g := (mkF m 37 #[.val (.ref a1), .val (.int (1 : Int32))] [(.int (0 : Int32)), (.ref a1)])) rfl rfl (hb hby d_jdk_52_method_5_37) _ ?_
    refine XS.sipush X1.here hx rfl (hb hby d_jdk_52_method_5_38) ?_
    refine XS.iand X1.here hx rfl (hb hby d_jdk_52_method_5_41) rfl ?_
    refine st3 _ ?_
    refine XS.ishl X3.here hx rfl (hb hby d_jdk_52_method_5_45) rfl ?_
    refine XS.aloadN X3.here hx rfl (hb hby d_jdk_52_method_5_46) rfl rfl ?_
    refine XS.iloadN X3.here hx rfl (hb hby d_jdk_52_method_5_47) rfl ?_
    refine X3.baloadBytes hx (j := (1 : Int32)) (v := (.int i4)) (by rw [e3]; exact Ar4.1) (State.isArrayOf_alike hZ.alike Ar4.2.1) Ar4.2.2 hin4 hat4 (g := (mkF m 48 #[.val (.ref a1), .val (.int (1 : Int32))] [(.int (1 : Int32)), (.ref a1), (.int ((i3 &&& (255 : Int32)) <<< ((0 : Int32) &&& 31)))])) rfl rfl (hb hby d_jdk_52_method_5_48) _ ?_
    refine XS.sipush X3.here hx rfl (hb hby d_jdk_52_method_5_49) ?_
    refine XS.iand X3.here hx rfl (hb hby d_jdk_52_method_5_52) rfl ?_
    refine st5 _ ?_
    refine XS.ishl X5.here hx rfl (hb hby d_jdk_52_method_5_56) rfl ?_
    refine XS.ior X5.here hx rfl (hb hby d_jdk_52_method_5_57) rfl ?_
    refine XS.i2c X5.here hx rfl (hb hby d_jdk_52_method_5_58) rfl ?_
    exact retN X5 hx (t := .char) Bd.returns (by simp) (hb hby d_jdk_52_method_5_59) hr
  · show Q_rc16_getChar Z a1 k2 i3 i4 h0 n0 _ T5.heap _
    rw [e5]
    exact ⟨rfl, N0, rfl⟩
def Q_rc10_compress (Z : State) (a1 : Addr) (k2 : ClassId) (i3 : Int32) (h0 : Heap) (n0 : Nat) (v : Option Value) (h : Heap) (L : List Loc) : Prop := ∃ (x10_x1_b2 : Addr), ∃ (x10_x1_k2 : ClassId), v = some (.ref x10_x1_b2) ∧ Fr n0 L ∧ Keep h0 h [] ∧ h0.size ≤ x10_x1_b2 ∧ Arv Z h x10_x1_b2 x10_x1_k2 .byte (2 : Int32) [(.int (nar .byte ((i3 >>> ((0 : Int32) &&& 31)).toInt8.toInt32))), (.int (nar .byte ((i3 >>> ((8 : Int32) &&& 31)).toInt8.toInt32)))] (.int (0 : Int32))
set_option maxRecDepth 65536 in
set_option maxHeartbeats 40000000 in
theorem rc10_compress (l : Launch) (Z : State) (a0 : Array Value) (hw : ∀ d ∈ tables_1, d.before a0 Z = true) (ws : List Jvm.Cond) (cs : Int32) (hS : SB Z cs) (a1 : Addr) (k2 : ClassId) (i3 : Int32) (h0 : Heap) (n0 : Nat) (O0 : Old Z n0 h0) (g_a1 : n0 ≤ a1) (V_a1 : Arv Z h0 a1 k2 .char (1 : Int32) [(.int i3)] (.int (0 : Int32))) (hy0 : nar .char i3 = i3) (hy1 : (255 : Int32) < i3) :
    Met l my_11 jdk_52_method_16_code 6 (some (.array .byte)) ws ({ frames := 3, cells := 2, slots := 3, locals := 40 } : Room) #[(.ref a1), (.int (0 : Int32)), (.int (1 : Int32))] Z h0 (Q_rc10_compress Z a1 k2 i3 h0 n0) := by
  refine MetFree.of_bodySF (plainFor_of_name pn_3) hisR ?_
  intro p e s m args below meth c s₁ Bd hml0 hP hK
  obtain ⟨rfl, hZ, hh⟩ := hP
  have hx := Bd.exec
  have hby := Bd.bytes
  have hml : c.maxLocals = 6 := hml0
  have hown : s.vm.findClass nString_1 = some m.cls := findClass_of_methodNamed Bd.named
  have hnm := (name_of_methodNamed Bd.named Bd.method).1
  have X0 : Stand p l e ({ frames := 3, cells := 2, slots := 3, locals := 40 } : Room) s m #[(.ref a1), (.int (0 : Int32)), (.int (1 : Int32))] below meth c s₁ [] 0 0 := Stand.of_body Bd
  have e0 : s₁.heap = h0 := by rw [← hh, Bd.state]; rfl
  have N0 := Fr.nil n0
  obtain ⟨f₀, hf₀⟩ : ∃ f, f = entryFrame m #[(.ref a1), (.int (0 : Int32)), (.int (1 : Int32))] 6 := ⟨_, rfl⟩
  rw [← hf₀]
  have pre0 : Go p e below s₁ f₀ s₁ (mkF m 0 #[.val (.ref a1), .val (.int (0 : Int32)), .val (.int (1 : Int32)), .unset, .unset, .unset] []) := fun t k => castTop (hf₀.trans (ef_rc10_compress m (a1) ((0 : Int32)) ((1 : Int32)))) k
  obtain ⟨T1, h1, k1, X1, e1, E1, A1, st1⟩ := newP X0 hx hZ (wq hw 20 rfl) e0 (g := (mkF m 1 #[.val (.ref a1), .val (.int (0 : Int32)), .val (.int (1 : Int32)), .unset, .unset, .unset] [(.int (1 : Int32))])) rfl (hb hby d_jdk_52_method_16_1) rfl (by decide) (cap := 1) (by decide) (by decide) (by decide) (by decide)
  obtain ⟨b1, gb1⟩ : ∃ z, z = h0.size := ⟨_, rfl⟩
  rw [← gb1] at A1 st1
  have ne2 : a1 ≠ b1 := Nat.ne_of_lt (Nat.lt_of_lt_of_le V_a1.lt (Nat.le_of_eq gb1.symm))
  have g3 : n0 ≤ b1 := Nat.le_trans (Nat.le_of_eq O0.1.symm) (Nat.le_trans O0.2.1 (Nat.le_of_eq gb1.symm))
  have s4 : h0.size ≤ b1 := Nat.le_trans (Keep.refl h0 []).1 (Nat.le_of_eq gb1.symm)
  have O5 : Old Z n0 h1 := Old.ext O0 E1
  have K6 : Keep h0 h1 [] := (Keep.refl h0 []).ext E1
  have v7 : Arv Z h1 b1 k1 .byte (1 : Int32) [(.int (0 : Int32))] (.int (0 : Int32)) := (Arv.new A1 (by decide)).pad (pad_rep [] (.int (0 : Int32)) 1)
  have t8 : Arv Z h1 a1 k2 .char (1 : Int32) [(.int i3)] (.int (0 : Int32)) := (V_a1.ext E1)
  obtain ⟨_, _, ⟨T9, L9, k9, n9⟩, -, X9, ⟨Lc9, hQ9, l9, y9, z9⟩, st9⟩ := Jvm.LawKit.callS X1 hx (y := my_5) hown (mvT hZ (wq hw 41 rfl)) (mvT hZ (wq hw 42 rfl)) (mvT hZ (wq hw 39 rfl)) (mvT hZ (wq hw 43 rfl)) (by decide) (backOf (W := 0) (rc11_compress l Z a0 hw [] cs hS a1 b1 k2 i3 h1 n0 O5 g_a1 g3 t8 hy1) hZ (wq hw 43 rfl) (wq hw 39 rfl) (by decide) (by decide)) (g := (mkF m 9 #[.val (.ref a1), .val (.int (0 : Int32)), .val (.int (1 : Int32)), .val (.ref b1), .unset, .unset] [(.int (1 : Int32)), (.int (0 : Int32)), (.ref b1), (.int (0 : Int32)), (.ref a1)])) rfl (by rw [hml]; rfl) (argsL := [(.ref a1), (.int (0 : Int32)), (.ref b1), (.int (0 : Int32)), (.int (1 : Int32))]) (rest := []) (lenOf pd_5 rfl) rfl (by show 2 * 0 + _ ≤ _; exact Nat.le_of_eq rfl) (hb hby d_jdk_52_method_16_9) (fun _ _ => ⟨rfl, e1, (by decide : 1 + 0 ≤ _), (by decide : 1 + 0 ≤ _)⟩)
  dsimp only [Pt.U, Pt.locs, Pt.cells, Pt.slots] at X9 l9 y9 z9 st9 hQ9
  have X9 := own_to X9 l9 y9 z9
  obtain ⟨rfl, N9q, e9⟩ := hQ9
  have N9 := Fr.app N0 N9q
  obtain ⟨_, _, ⟨T10, L10, k10, n10⟩, -, X10, ⟨Lc10, hQ10, l10, y10, z10⟩, st10⟩ := Jvm.LawKit.callS X9 hx (y := my_9) hown (mvT hZ (wq hw 58 rfl)) (mvT hZ (wq hw 59 rfl)) (mvT hZ (wq hw 39 rfl)) (mvT hZ (wq hw 60 rfl)) (by decide) (backOf (W := 0) (rc12_toBytes l Z a0 hw [] cs hS a1 k2 i3 h1 n0 O5 g_a1 t8) hZ (wq hw 60 rfl) (wq hw 39 rfl) (by decide) (by decide)) (g := (mkF m 23 #[.val (.ref a1), .val (.int (0 : Int32)), .val (.int (1 : Int32)), .val (.ref b1), .val (.int (0 : Int32)), .unset] [(.int (1 : Int32)), (.int (0 : Int32)), (.ref a1)])) rfl (by rw [hml]; rfl) (argsL := [(.ref a1), (.int (0 : Int32)), (.int (1 : Int32))]) (rest := []) (lenOf pd_9 rfl) rfl (by show 2 * 0 + _ ≤ _; exact Nat.le_of_eq rfl) (hb hby d_jdk_52_method_16_23) (fun _ _ => ⟨rfl, e9, (by decide : 1 + 1 ≤ _), (by decide : 1 + 2 ≤ _)⟩)
  dsimp only [Pt.U, Pt.locs, Pt.cells, Pt.slots] at X10 l10 y10 z10 st10 hQ10
  have X10 := own_to X10 l10 y10 z10
  obtain ⟨x10_x1_b2, x10_x1_k2, rfl, N10q, K10, sz10_x1_b2, q10_0⟩ := hQ10
  have N10 := Fr.app N9 N10q
  have g11 : n0 ≤ x10_x1_b2 := Nat.le_trans (Nat.le_of_eq O5.1.symm) (Nat.le_trans O5.2.1 sz10_x1_b2)
  have s12 : h0.size ≤ x10_x1_b2 := Nat.le_trans K6.1 sz10_x1_b2
  have ne13 : a1 ≠ x10_x1_b2 := Nat.ne_of_lt (Nat.lt_of_lt_of_le t8.lt sz10_x1_b2)
  have ne14 : b1 ≠ x10_x1_b2 := Nat.ne_of_lt (Nat.lt_of_lt_of_le v7.lt sz10_x1_b2)
  have O15 : Old Z n0 T10.heap := Old.keep O5 K10 all0
  have K16 : Keep h0 T10.heap [] := K6.trans K10 all0
  obtain ⟨_, _, ⟨T17, L17, k17, n17⟩, -, X17, ⟨Lc17, hQ17, l17, y17, z17⟩, st17⟩ := Jvm.LawKit.callS X10 hx (y := my_10) hown (mvT hZ (wq hw 74 rfl)) (mvT hZ (wq hw 75 rfl)) (mvT hZ (wq hw 39 rfl)) (mvT hZ (wq hw 76 rfl)) (by decide) (backOf (W := 0) (rc16_getChar l Z a0 hw [] cs hS x10_x1_b2 x10_x1_k2 (nar .byte ((i3 >>> ((0 : Int32) &&& 31)).toInt8.toInt32)) (nar .byte ((i3 >>> ((8 : Int32) &&& 31)).toInt8.toInt32)) T10.heap n0 O15 g11 q10_0) hZ (wq hw 76 rfl) (wq hw 39 rfl) (by decide) (by decide)) (g := (mkF m 32 #[.val (.ref a1), .val (.int (0 : Int32)), .val (.int (1 : Int32)), .val (.ref b1), .val (.int (0 : Int32)), .val (.ref x10_x1_b2)] [(.int (0 : Int32)), (.ref x10_x1_b2)])) rfl (by rw [hml]; rfl) (argsL := [(.ref x10_x1_b2), (.int (0 : Int32))]) (rest := []) (lenOf pd_10 rfl) rfl (by show 2 * 0 + _ ≤ _; exact Nat.le_of_eq rfl) (hb hby d_jdk_52_method_16_32) (fun _ _ => ⟨rfl, rfl, (by decide : 2 + 0 ≤ _), (by decide : 3 + 0 ≤ _)⟩)
  dsimp only [Pt.U, Pt.locs, Pt.cells, Pt.slots] at X17 l17 y17 z17 st17 hQ17
  have X17 := own_to X17 l17 y17 z17
  obtain ⟨rfl, N17q, e17⟩ := hQ17
  have N17 := Fr.app N10 N17q
  obtain ⟨fs, hr, hrun, hended, hW, hsame⟩ := X17.leave (v := (some (.ref x10_x1_b2))) (fun h => by rw [Bd.returns] at h; cases h)
  refine ⟨_, _, pre0 _ ?_, hrun, hended, _, _, rfl, ?_, ⟨_, rfl⟩, hW, hsame.mono (by decide) (by decide)⟩
  · refine XS.iloadN X0.here hx rfl (hb hby d_jdk_52_method_16_0) rfl ?_
    refine st1 _ ?_
    refine XS.astoreN X1.here hx rfl (hb hby d_jdk_52_method_16_3) rfl rfl (l' := #[.val (.ref a1), .val (.int (0 : Int32)), .val (.int (1 : Int32)), .val (.ref b1), .unset, .unset]) rfl ?_
    refine XS.aloadN X1.here hx rfl (hb hby d_jdk_52_method_16_4) rfl rfl ?_
    refine XS.iloadN X1.here hx rfl (hb hby d_jdk_52_method_16_5) rfl ?_
    refine XS.aloadN X1.here hx rfl (hb hby d_jdk_52_method_16_6) rfl rfl ?_
    refine XS.iconst X1.here hx rfl (hb hby d_jdk_52_method_16_7) ?_
    refine XS.iloadN X1.here hx rfl (hb hby d_jdk_52_method_16_8) rfl ?_
    refine st9 _ ?_
    refine XS.istore X9.here hx rfl (hb hby d_jdk_52_method_16_12) rfl (l' := #[.val (.ref a1), .val (.int (0 : Int32)), .val (.int (1 : Int32)), .val (.ref b1), .val (.int (0 : Int32)), .unset]) rfl ?_
    refine XS.iload X9.here hx rfl (hb hby d_jdk_52_method_16_14) rfl ?_
    refine XS.iloadN X9.here hx rfl (hb hby d_jdk_52_method_16_16) rfl ?_
    refine XS.icmpNo X9.here hx rfl (hb hby d_jdk_52_method_16_17) rfl (feq (by decide : ¬ ((0 : Int32) = (1 : Int32)))).1 ?_
    refine XS.aloadN X9.here hx rfl (hb hby d_jdk_52_method_16_20) rfl rfl ?_
    refine XS.iloadN X9.here hx rfl (hb hby d_jdk_52_method_16_21) rfl ?_
    refine XS.iloadN X9.here hx rfl (hb hby d_jdk_52_method_16_22) rfl ?_
    refine st10 _ ?_
    refine XS.astore X10.here hx rfl (hb hby d_jdk_52_method_16_26) rfl rfl (l' := #[.val (.ref a1), .val (.int (0 : Int32)), .val (.int (1 : Int32)), .val (.ref b1), .val (.int (0 : Int32)), .val (.ref x10_x1_b2)]) rfl ?_
    refine XS.aload X10.here hx rfl (hb hby d_jdk_52_method_16_28) rfl rfl ?_
    refine XS.iload X10.here hx rfl (hb hby d_jdk_52_method_16_30) rfl ?_
    refine st17 _ ?_
    refine XS.sipush X17.here hx rfl (hb hby d_jdk_52_method_16_35) ?_
    refine XS.icmpYes X17.here hx rfl (pc0 := 38) (pc' := 54) rfl (hb hby d_jdk_52_method_16_38) rfl (tlt (own_getc hy0 hy1)).2.2.1 (by decide) (by decide) ?_
    refine XS.aload X17.here hx rfl (hb hby d_jdk_52_method_16_54) rfl rfl ?_
    exact retOut X17 hx Bd.returns rfl (Or.inr (Or.inr (Or.inr (Or.inr ⟨rfl, rfl, rfl⟩)))) (hb hby d_jdk_52_method_16_56) hr
  · show Q_rc10_compress Z a1 k2 i3 h0 n0 _ T17.heap _
    rw [e17]
    exact ⟨x10_x1_b2, x10_x1_k2, rfl, N17, K16, s12, q10_0⟩
def Q_rc17_coderFromArrayLen (Z : State) (a1 : Addr) (k2 : ClassId) (i3 : Int32) (i4 : Int32) (h0 : Heap) (n0 : Nat) (v : Option Value) (h : Heap) (L : List Loc) : Prop := v = some (.int (1 : Int32)) ∧ Fr n0 L ∧ h = h0
set_option maxRecDepth 65536 in
set_option maxHeartbeats 40000000 in
theorem rc17_coderFromArrayLen (l : Launch) (Z : State) (a0 : Array Value) (hw : ∀ d ∈ tables_1, d.before a0 Z = true) (ws : List Jvm.Cond) (cs : Int32) (hS : SB Z cs) (a1 : Addr) (k2 : ClassId) (i3 : Int32) (i4 : Int32) (h0 : Heap) (n0 : Nat) (O0 : Old Z n0 h0) (g_a1 : n0 ≤ a1) (V_a1 : Arv Z h0 a1 k2 .byte (2 : Int32) [(.int i3), (.int i4)] (.int (0 : Int32))) :
    Met l my_12 jdk_52_method_15_code 2 (some .byte) ws ({ frames := 0, cells := 0, slots := 0, locals := 0 } : Room) #[(.ref a1), (.int (1 : Int32))] Z h0 (Q_rc17_coderFromArrayLen Z a1 k2 i3 i4 h0 n0) := by
  refine MetFree.of_bodySF (plainFor_of_name pn_3) hisR ?_
  intro p e s m args below meth c s₁ Bd hml0 hP hK
  obtain ⟨rfl, hZ, hh⟩ := hP
  have hx := Bd.exec
  have hby := Bd.bytes
  have hml : c.maxLocals = 2 := hml0
  have hown : s.vm.findClass nString_1 = some m.cls := findClass_of_methodNamed Bd.named
  have hnm := (name_of_methodNamed Bd.named Bd.method).1
  have X0 : Stand p l e ({ frames := 0, cells := 0, slots := 0, locals := 0 } : Room) s m #[(.ref a1), (.int (1 : Int32))] below meth c s₁ [] 0 0 := Stand.of_body Bd
  have e0 : s₁.heap = h0 := by rw [← hh, Bd.state]; rfl
  have N0 := Fr.nil n0
  obtain ⟨f₀, hf₀⟩ : ∃ f, f = entryFrame m #[(.ref a1), (.int (1 : Int32))] 2 := ⟨_, rfl⟩
  rw [← hf₀]
  have pre0 : Go p e below s₁ f₀ s₁ (mkF m 0 #[.val (.ref a1), .val (.int (1 : Int32))] []) := fun t k => castTop (hf₀.trans (ef_rc17_coderFromArrayLen m (a1) ((1 : Int32)))) k
  obtain ⟨c1, Ar1, q1, S1, M1, Hh1, G1⟩ := (id V_a1)
  obtain ⟨fs, hr, hrun, hended, hW, hsame⟩ := X0.leave (v := (some (.int (1 : Int32)))) (fun h => by rw [Bd.returns] at h; cases h)
  refine ⟨_, _, pre0 _ ?_, hrun, hended, _, _, rfl, ?_, ⟨_, rfl⟩, hW, hsame.mono (by decide) (by decide)⟩
  · refine XS.iloadN X0.here hx rfl (hb hby d_jdk_52_method_15_0) rfl ?_
    refine XS.aloadN X0.here hx rfl (hb hby d_jdk_52_method_15_1) rfl rfl ?_
    refine X0.arraylength hx (by rw [e0]; exact Ar1.1) (State.isArrayOf_alike hZ.alike Ar1.2.1) (g := (mkF m 2 #[.val (.ref a1), .val (.int (1 : Int32))] [(.ref a1), (.int (1 : Int32))])) rfl rfl (hb hby d_jdk_52_method_15_2) _ ?_
    rw [len_of S1 M1]
    refine XS.isub X0.here hx rfl (hb hby d_jdk_52_method_15_3) rfl ?_
    show Steps p.tables e below (s₁.setTop (mkF m 4 #[.val (.ref a1), .val (.int (1 : Int32))] [(.int (-1 : Int32))])) _
    refine XS.bipush X0.here hx rfl (hb hby d_jdk_52_method_15_4) ?_
    refine XS.iushr X0.here hx rfl (hb hby d_jdk_52_method_15_6) rfl ?_
    show Steps p.tables e below (s₁.setTop (mkF m 7 #[.val (.ref a1), .val (.int (1 : Int32))] [(.int (1 : Int32))])) _
    refine XS.i2b X0.here hx rfl (hb hby d_jdk_52_method_15_7) rfl ?_
    show Steps p.tables e below (s₁.setTop (mkF m 8 #[.val (.ref a1), .val (.int (1 : Int32))] [(.int (1 : Int32))])) _
    exact retN X0 hx (t := .byte) Bd.returns (by simp) (hb hby d_jdk_52_method_15_8) hr
  · show Q_rc17_coderFromArrayLen Z a1 k2 i3 i4 h0 n0 _ s₁.heap _
    rw [e0]
    exact ⟨rfl, N0, rfl⟩
def Q_rc9_init (Z : State) (a1 : Addr) (a2 : Addr) (k3 : ClassId) (i4 : Int32) (h0 : Heap) (n0 : Nat) (v : Option Value) (h : Heap) (L : List Loc) : Prop := ∃ (x3_x10_x1_b2 : Addr), ∃ (x3_x10_x1_k2 : ClassId), v = none ∧ Fr n0 L ∧ Keep h0 h [a1] ∧ h0.size ≤ x3_x10_x1_b2 ∧ Exa Z h a1 nString_0 ∧ Fld Z h a1 nString_0 "coder" "B" (.int (1 : Int32)) ∧ Fld Z h a1 nString_0 "value" "[B" (.ref x3_x10_x1_b2) ∧ Arv Z h x3_x10_x1_b2 x3_x10_x1_k2 .byte (2 : Int32) [(.int (nar .byte ((i4 >>> ((0 : Int32) &&& 31)).toInt8.toInt32))), (.int (nar .byte ((i4 >>> ((8 : Int32) &&& 31)).toInt8.toInt32)))] (.int (0 : Int32))
set_option maxRecDepth 65536 in
set_option maxHeartbeats 40000000 in
theorem rc9_init (l : Launch) (Z : State) (a0 : Array Value) (hw : ∀ d ∈ tables_1, d.before a0 Z = true) (ws : List Jvm.Cond) (cs : Int32) (hS : SB Z cs) (a1 : Addr) (a2 : Addr) (k3 : ClassId) (i4 : Int32) (h0 : Heap) (n0 : Nat) (O0 : Old Z n0 h0) (g_a1 : n0 ≤ a1) (g_a2 : n0 ≤ a2) (E_a1 : Exa Z h0 a1 nString_0) (F_a1_coder : Fld Z h0 a1 nString_0 "coder" "B" (.int (0 : Int32))) (F_a1_value : Fld Z h0 a1 nString_0 "value" "[B" .null) (V_a2 : Arv Z h0 a2 k3 .char (1 : Int32) [(.int i4)] (.int (0 : Int32))) (hy0 : nar .char i4 = i4) (hy1 : (255 : Int32) < i4) :
    Met l my_1 jdk_42_method_149_code 6 none ws ({ frames := 4, cells := 2, slots := 3, locals := 57 } : Room) #[(.ref a1), (.ref a2), (.int (0 : Int32)), (.int (1 : Int32)), .null] Z h0 (Q_rc9_init Z a1 a2 k3 i4 h0 n0) := by
  refine MetFree.of_bodySF (plainFor_of_name pn_1) hisR ?_
  intro p e s m args below meth c s₁ Bd hml0 hP hK
  obtain ⟨rfl, hZ, hh⟩ := hP
  have hx := Bd.exec
  have hby := Bd.bytes
  have hml : c.maxLocals = 6 := hml0
  have hown : s.vm.findClass nString_0 = some m.cls := findClass_of_methodNamed Bd.named
  have hnm := (name_of_methodNamed Bd.named Bd.method).1
  have X0 : Stand p l e ({ frames := 4, cells := 2, slots := 3, locals := 57 } : Room) s m #[(.ref a1), (.ref a2), (.int (0 : Int32)), (.int (1 : Int32)), .null] below meth c s₁ [] 0 0 := Stand.of_body Bd
  have e0 : s₁.heap = h0 := by rw [← hh, Bd.state]; rfl
  have N0 := Fr.nil n0
  obtain ⟨f₀, hf₀⟩ : ∃ f, f = entryFrame m #[(.ref a1), (.ref a2), (.int (0 : Int32)), (.int (1 : Int32)), .null] 6 := ⟨_, rfl⟩
  rw [← hf₀]
  have pre0 : Go p e below s₁ f₀ s₁ (mkF m 0 #[.val (.ref a1), .val (.ref a2), .val (.int (0 : Int32)), .val (.int (1 : Int32)), .val .null, .unset] []) := fun t k => castTop (hf₀.trans (ef_rc9_init m (a1) (a2) ((0 : Int32)) ((1 : Int32)))) k
  obtain ⟨T1, X1, e1, st1⟩ := initO X0 hx hZ hown (wq hw 16 rfl) (wq hw 17 rfl) (wq hw 18 rfl) e0 (g := (mkF m 1 #[.val (.ref a1), .val (.ref a2), .val (.int (0 : Int32)), .val (.int (1 : Int32)), .val .null, .unset] [(.ref a1)])) rfl (by rw [hml]; rfl) rfl (hb hby d_jdk_42_method_149_1) (by decide) (W := 0) (by show 2 * 0 + _ ≤ _; exact Nat.le_of_eq rfl) (by decide)
  obtain ⟨T2, X2, e2, st2⟩ := getS2 X1 hx hZ hown (host := "") (Or.inl (wq hw 36 rfl)) Via.refl e1 (hS.1.ext O0.2) (g := (mkF m 27 #[.val (.ref a1), .val (.ref a2), .val (.int (0 : Int32)), .val (.int (1 : Int32)), .val .null, .unset] [])) rfl (hb hby d_jdk_42_method_149_27)
  obtain ⟨_, _, ⟨T3, L3, k3, n3⟩, -, X3, ⟨Lc3, hQ3, l3, y3, z3⟩, st3⟩ := Jvm.LawKit.callS X2 hx (y := my_11) hown (mvT hZ (wq hw 37 rfl)) (mvT hZ (wq hw 38 rfl)) (mvT hZ (wq hw 39 rfl)) (mvT hZ (wq hw 40 rfl)) (by decide) (backOf (W := 0) (rc10_compress l Z a0 hw [] cs hS a2 k3 i4 h0 n0 O0 g_a2 V_a2 hy0 hy1) hZ (wq hw 40 rfl) (wq hw 39 rfl) (by decide) (by decide)) (g := (mkF m 36 #[.val (.ref a1), .val (.ref a2), .val (.int (0 : Int32)), .val (.int (1 : Int32)), .val .null, .unset] [(.int (1 : Int32)), (.int (0 : Int32)), (.ref a2)])) rfl (by rw [hml]; rfl) (argsL := [(.ref a2), (.int (0 : Int32)), (.int (1 : Int32))]) (rest := []) (lenOf pd_9 rfl) rfl (by show 2 * 0 + _ ≤ _; exact Nat.le_of_eq rfl) (hb hby d_jdk_42_method_149_36) (fun _ _ => ⟨rfl, e2, (by decide : 0 + 2 ≤ _), (by decide : 0 + 3 ≤ _)⟩)
  dsimp only [Pt.U, Pt.locs, Pt.cells, Pt.slots] at X3 l3 y3 z3 st3 hQ3
  have X3 := own_to X3 l3 y3 z3
  obtain ⟨x3_x10_x1_b2, x3_x10_x1_k2, rfl, N3q, K3, sz3_x10_x1_b2, q3_0⟩ := hQ3
  have N3 := Fr.app N0 N3q
  have g4 : n0 ≤ x3_x10_x1_b2 := Nat.le_trans (Nat.le_of_eq O0.1.symm) (Nat.le_trans O0.2.1 sz3_x10_x1_b2)
  have s5 : h0.size ≤ x3_x10_x1_b2 := Nat.le_trans (Keep.refl h0 [a1]).1 sz3_x10_x1_b2
  have ne6 : a1 ≠ x3_x10_x1_b2 := Nat.ne_of_lt (Nat.lt_of_lt_of_le E_a1.lt sz3_x10_x1_b2)
  have ne7 : a2 ≠ x3_x10_x1_b2 := Nat.ne_of_lt (Nat.lt_of_lt_of_le V_a2.lt sz3_x10_x1_b2)
  have O8 : Old Z n0 T3.heap := Old.keep O0 K3 all0
  have K9 : Keep h0 T3.heap [a1] := (Keep.refl h0 [a1]).trans K3 all0
  obtain ⟨_, _, ⟨T10, L10, k10, n10⟩, -, X10, ⟨Lc10, hQ10, l10, y10, z10⟩, st10⟩ := Jvm.LawKit.callS X3 hx (y := my_12) hown (mvT hZ (wq hw 44 rfl)) (mvT hZ (wq hw 45 rfl)) (mvT hZ (wq hw 39 rfl)) (mvT hZ (wq hw 46 rfl)) (by decide) (backOf (W := 1) (rc17_coderFromArrayLen l Z a0 hw [] cs hS x3_x10_x1_b2 x3_x10_x1_k2 (nar .byte ((i4 >>> ((0 : Int32) &&& 31)).toInt8.toInt32)) (nar .byte ((i4 >>> ((8 : Int32) &&& 31)).toInt8.toInt32)) T3.heap n0 O8 g4 q3_0) hZ (wq hw 46 rfl) (wq hw 39 rfl) (by decide) (by decide)) (g := (mkF m 45 #[.val (.ref a1), .val (.ref a2), .val (.int (0 : Int32)), .val (.int (1 : Int32)), .val .null, .val (.ref x3_x10_x1_b2)] [(.int (1 : Int32)), (.ref x3_x10_x1_b2), (.ref a1)])) rfl (by rw [hml]; rfl) (argsL := [(.ref x3_x10_x1_b2), (.int (1 : Int32))]) (rest := [(.ref a1)]) (lenOf pd_11 rfl) rfl (by show 2 * 0 + _ ≤ _; exact Nat.le_of_eq rfl) (hb hby d_jdk_42_method_149_45) (fun _ _ => ⟨rfl, rfl, (by decide : 2 + 0 ≤ _), (by decide : 3 + 0 ≤ _)⟩)
  dsimp only [Pt.U, Pt.locs, Pt.cells, Pt.slots] at X10 l10 y10 z10 st10 hQ10
  have X10 := own_to X10 l10 y10 z10
  obtain ⟨rfl, N10q, e10⟩ := hQ10
  have N10 := Fr.app N3 N10q
  have t11 : Exa Z T3.heap a1 nString_0 := (E_a1.keep K3)
  have t12 : Fld Z T3.heap a1 nString_0 "coder" "B" (.int (0 : Int32)) := (F_a1_coder.keep K3 nin0)
  obtain ⟨T13, h13, X13, e13, W13, st13⟩ := putFN X10 hx hZ hown (wq hw 26 rfl) Via.refl e10 t12 t11 (Or.inr ⟨(wq hw 22 rfl), rfl, hnm⟩) (wq hw 6 rfl) (ty := .byte) (v' := (.int (1 : Int32))) (by decide) rfl (by decide +kernel) (g := (mkF m 48 #[.val (.ref a1), .val (.ref a2), .val (.int (0 : Int32)), .val (.int (1 : Int32)), .val .null, .val (.ref x3_x10_x1_b2)] [(.int (1 : Int32)), (.ref a1)])) rfl rfl (hb hby d_jdk_42_method_149_48)
  have f14 : Fld Z h13 a1 nString_0 "coder" "B" (.int (1 : Int32)) := t12.same W13
  have N13 := Fr.snoc X13 N10 g_a1
  have O15 : Old Z n0 h13 := Old.wr O8 W13 g_a1
  have K16 : Keep h0 h13 [a1] := K9.wr W13 (Or.inl (List.mem_of_getElem? (i := 0) rfl))
  have t17 : Exa Z h13 a1 nString_0 := (t11.wr W13)
  have t18 : Fld Z h13 a1 nString_0 "value" "[B" .null := ((F_a1_value.keep K3 nin0).other W13 (Or.inr (slot_ne (Or.inr (wq hw 21 rfl)) (Or.inr (wq hw 22 rfl)) (by decide) (t := (.array .byte)) (t' := .byte) (by decide) (by decide))))
  obtain ⟨T19, h19, X19, e19, W19, st19⟩ := putF X13 hx hZ hown (host := "") (Or.inl (wq hw 25 rfl)) Via.refl e13 t18 t17 (Or.inr ⟨(wq hw 21 rfl), rfl, hnm⟩) (wq hw 6 rfl) (ty := (.array .byte)) (by decide) rfl rfl (g := (mkF m 54 #[.val (.ref a1), .val (.ref a2), .val (.int (0 : Int32)), .val (.int (1 : Int32)), .val .null, .val (.ref x3_x10_x1_b2)] [(.ref x3_x10_x1_b2), (.ref a1)])) rfl rfl (hb hby d_jdk_42_method_149_54)
  have f20 : Fld Z h19 a1 nString_0 "value" "[B" (.ref x3_x10_x1_b2) := t18.same W19
  have N19 := Fr.snoc X19 N13 g_a1
  have O21 : Old Z n0 h19 := Old.wr O15 W19 g_a1
  have K22 : Keep h0 h19 [a1] := K16.wr W19 (Or.inl (List.mem_of_getElem? (i := 0) rfl))
  have t23 : Exa Z h19 a1 nString_0 := (t17.wr W19)
  have t24 : Fld Z h19 a1 nString_0 "coder" "B" (.int (1 : Int32)) := (f14.other W19 (Or.inr (slot_ne (Or.inr (wq hw 22 rfl)) (Or.inr (wq hw 21 rfl)) (by decide) (t := .byte) (t' := (.array .byte)) (by decide) (by decide))))
  have t25 : Arv Z h19 x3_x10_x1_b2 x3_x10_x1_k2 .byte (2 : Int32) [(.int (nar .byte ((i4 >>> ((0 : Int32) &&& 31)).toInt8.toInt32))), (.int (nar .byte ((i4 >>> ((8 : Int32) &&& 31)).toInt8.toInt32)))] (.int (0 : Int32)) := ((q3_0.other W13 (Ne.symm ne6)).other W19 (Ne.symm ne6))
  obtain ⟨fs, hr, hrun, hended, hW, hsame⟩ := X19.leave (v := none) (fun _ => rfl)
  refine ⟨_, _, pre0 _ ?_, hrun, hended, _, _, rfl, ?_, ⟨_, rfl⟩, hW, hsame.mono (by decide) (by decide)⟩
  · refine XS.aloadN X0.here hx rfl (hb hby d_jdk_42_method_149_0) rfl rfl ?_
    refine st1 _ ?_
    refine XS.iloadN X1.here hx rfl (hb hby d_jdk_42_method_149_4) rfl ?_
    refine XS.ifYes X1.here hx rfl (pc0 := 5) (pc' := 27) rfl (hb hby d_jdk_42_method_149_5) rfl ((if0 _ _).trans (feq (by decide : ¬ ((1 : Int32) = (0 : Int32)))).2) (by decide) (by decide) ?_
    refine st2 _ ?_
    refine XS.ifNo X2.here hx rfl (hb hby d_jdk_42_method_149_30) rfl ((if0 _ _).trans (feq hS.2.1).1) ?_
    refine XS.aloadN X2.here hx rfl (hb hby d_jdk_42_method_149_33) rfl rfl ?_
    refine XS.iloadN X2.here hx rfl (hb hby d_jdk_42_method_149_34) rfl ?_
    refine XS.iloadN X2.here hx rfl (hb hby d_jdk_42_method_149_35) rfl ?_
    refine st3 _ ?_
    refine XS.astore X3.here hx rfl (hb hby d_jdk_42_method_149_39) rfl rfl (l' := #[.val (.ref a1), .val (.ref a2), .val (.int (0 : Int32)), .val (.int (1 : Int32)), .val .null, .val (.ref x3_x10_x1_b2)]) rfl ?_
    refine XS.aloadN X3.here hx rfl (hb hby d_jdk_42_method_149_41) rfl rfl ?_
    refine XS.aload X3.here hx rfl (hb hby d_jdk_42_method_149_42) rfl rfl ?_
    refine XS.iloadN X3.here hx rfl (hb hby d_jdk_42_method_149_44) rfl ?_
    refine st10 _ ?_
    refine st13 _ ?_
    refine XS.aloadN X13.here hx rfl (hb hby d_jdk_42_method_149_51) rfl rfl ?_
    refine XS.aload X13.here hx rfl (hb hby d_jdk_42_method_149_52) rfl rfl ?_
    refine st19 _ ?_
    exact X19.returnOut hx Bd.returns (hb hby d_jdk_42_method_149_57) hr
  · show Q_rc9_init Z a1 a2 k3 i4 h0 n0 _ T19.heap _
    rw [e19]
    exact ⟨x3_x10_x1_b2, x3_x10_x1_k2, rfl, N19, K22, s5, t23, t24, f20, t25⟩
def Q_rc8_init (Z : State) (a1 : Addr) (a2 : Addr) (k3 : ClassId) (i4 : Int32) (h0 : Heap) (n0 : Nat) (v : Option Value) (h : Heap) (L : List Loc) : Prop := ∃ (x2_x3_x10_x1_b2 : Addr), ∃ (x2_x3_x10_x1_k2 : ClassId), v = none ∧ Fr n0 L ∧ Keep h0 h [a1] ∧ h0.size ≤ x2_x3_x10_x1_b2 ∧ Exa Z h a1 nString_0 ∧ Fld Z h a1 nString_0 "coder" "B" (.int (1 : Int32)) ∧ Fld Z h a1 nString_0 "value" "[B" (.ref x2_x3_x10_x1_b2) ∧ Arv Z h x2_x3_x10_x1_b2 x2_x3_x10_x1_k2 .byte (2 : Int32) [(.int (nar .byte ((i4 >>> ((0 : Int32) &&& 31)).toInt8.toInt32))), (.int (nar .byte ((i4 >>> ((8 : Int32) &&& 31)).toInt8.toInt32)))] (.int (0 : Int32))
set_option maxRecDepth 65536 in
set_option maxHeartbeats 40000000 in
theorem rc8_init (l : Launch) (Z : State) (a0 : Array Value) (hw : ∀ d ∈ tables_1, d.before a0 Z = true) (ws : List Jvm.Cond) (cs : Int32) (hS : SB Z cs) (a1 : Addr) (a2 : Addr) (k3 : ClassId) (i4 : Int32) (h0 : Heap) (n0 : Nat) (O0 : Old Z n0 h0) (g_a1 : n0 ≤ a1) (g_a2 : n0 ≤ a2) (E_a1 : Exa Z h0 a1 nString_0) (F_a1_coder : Fld Z h0 a1 nString_0 "coder" "B" (.int (0 : Int32))) (F_a1_value : Fld Z h0 a1 nString_0 "value" "[B" .null) (V_a2 : Arv Z h0 a2 k3 .char (1 : Int32) [(.int i4)] (.int (0 : Int32))) (hy0 : nar .char i4 = i4) (hy1 : (255 : Int32) < i4) :
    Met l my_2 jdk_42_method_3_code 2 none ws ({ frames := 5, cells := 2, slots := 3, locals := 74 } : Room) #[(.ref a1), (.ref a2)] Z h0 (Q_rc8_init Z a1 a2 k3 i4 h0 n0) := by
  refine MetFree.of_bodySF (plainFor_of_name pn_1) hisR ?_
  intro p e s m args below meth c s₁ Bd hml0 hP hK
  obtain ⟨rfl, hZ, hh⟩ := hP
  have hx := Bd.exec
  have hby := Bd.bytes
  have hml : c.maxLocals = 2 := hml0
  have hown : s.vm.findClass nString_0 = some m.cls := findClass_of_methodNamed Bd.named
  have hnm := (name_of_methodNamed Bd.named Bd.method).1
  have X0 : Stand p l e ({ frames := 5, cells := 2, slots := 3, locals := 74 } : Room) s m #[(.ref a1), (.ref a2)] below meth c s₁ [] 0 0 := Stand.of_body Bd
  have e0 : s₁.heap = h0 := by rw [← hh, Bd.state]; rfl
  have N0 := Fr.nil n0
  obtain ⟨f₀, hf₀⟩ : ∃ f, f = entryFrame m #[(.ref a1), (.ref a2)] 2 := ⟨_, rfl⟩
  rw [← hf₀]
  have pre0 : Go p e below s₁ f₀ s₁ (mkF m 0 #[.val (.ref a1), .val (.ref a2)] []) := fun t k => castTop (hf₀.trans (ef_rc8_init m (a1) (a2))) k
  obtain ⟨c1, Ar1, q1, S1, M1, Hh1, G1⟩ := (id V_a2)
  obtain ⟨_, _, ⟨T2, L2, k2, n2⟩, -, X2, ⟨Lc2, hQ2, l2, y2, z2⟩, st2⟩ := X0.specialBack hx (y := my_1) rfl hown (mvT hZ (wq hw 12 rfl)) (mvT hZ (wq hw 13 rfl)) (mvT hZ (wq hw 15 rfl)) (by decide) (backOf (W := 0) (rc9_init l Z a0 hw [] cs hS a1 a2 k3 i4 h0 n0 O0 g_a1 g_a2 E_a1 F_a1_coder F_a1_value V_a2 hy0 hy1) hZ (wq hw 15 rfl) (wq hw 7 rfl) (by decide) (by decide)) (g := (mkF m 6 #[.val (.ref a1), .val (.ref a2)] [.null, (.int (1 : Int32)), (.int (0 : Int32)), (.ref a2), (.ref a1)])) rfl (by rw [hml]; rfl) (Steps.refl _) (a := a1) (argsL := [(.ref a2), (.int (0 : Int32)), (.int (1 : Int32)), .null]) (rest := []) (lenOf pd_1 rfl) rfl (by show 2 * 0 + _ ≤ _; exact Nat.le_of_eq rfl) (hb hby d_jdk_42_method_3_6) (fun _ _ => ⟨rfl, e0, (by decide : 0 + 2 ≤ _), (by decide : 0 + 3 ≤ _)⟩)
  dsimp only [Pt.U, Pt.locs, Pt.cells, Pt.slots] at X2 l2 y2 z2 st2 hQ2
  have X2 := own_to X2 l2 y2 z2
  obtain ⟨x2_x3_x10_x1_b2, x2_x3_x10_x1_k2, rfl, N2q, K2, sz2_x3_x10_x1_b2, q2_0, q2_1, q2_2, q2_3⟩ := hQ2
  have N2 := Fr.app N0 N2q
  have g3 : n0 ≤ x2_x3_x10_x1_b2 := Nat.le_trans (Nat.le_of_eq O0.1.symm) (Nat.le_trans O0.2.1 sz2_x3_x10_x1_b2)
  have s4 : h0.size ≤ x2_x3_x10_x1_b2 := Nat.le_trans (Keep.refl h0 [a1]).1 sz2_x3_x10_x1_b2
  have ne5 : a1 ≠ x2_x3_x10_x1_b2 := Nat.ne_of_lt (Nat.lt_of_lt_of_le E_a1.lt sz2_x3_x10_x1_b2)
  have ne6 : a2 ≠ x2_x3_x10_x1_b2 := Nat.ne_of_lt (Nat.lt_of_lt_of_le V_a2.lt sz2_x3_x10_x1_b2)
  have O7 : Old Z n0 T2.heap := Old.keep O0 K2 (allS g_a1 all0)
  have K8 : Keep h0 T2.heap [a1] := (Keep.refl h0 [a1]).trans K2 (allS (Or.inl (List.mem_of_getElem? (i := 0) rfl)) all0)
  obtain ⟨fs, hr, hrun, hended, hW, hsame⟩ := X2.leave (v := none) (fun _ => rfl)
  refine ⟨_, _, pre0 _ ?_, hrun, hended, _, _, rfl, ?_, ⟨_, rfl⟩, hW, hsame.mono (by decide) (by decide)⟩
  · refine XS.aloadN X0.here hx rfl (hb hby d_jdk_42_method_3_0) rfl rfl ?_
    refine XS.aloadN X0.here hx rfl (hb hby d_jdk_42_method_3_1) rfl rfl ?_
    refine XS.iconst X0.here hx rfl (hb hby d_jdk_42_method_3_2) ?_
    refine XS.aloadN X0.here hx rfl (hb hby d_jdk_42_method_3_3) rfl rfl ?_
    refine X0.arraylength hx (by rw [e0]; exact Ar1.1) (State.isArrayOf_alike hZ.alike Ar1.2.1) (g := (mkF m 4 #[.val (.ref a1), .val (.ref a2)] [(.ref a2), (.int (0 : Int32)), (.ref a2), (.ref a1)])) rfl rfl (hb hby d_jdk_42_method_3_4) _ ?_
    rw [len_of S1 M1]
    refine XS.aconstNull X0.here hx rfl (hb hby d_jdk_42_method_3_5) ?_
    refine st2.trans ?_
    exact X2.returnOut hx Bd.returns (hb hby d_jdk_42_method_3_9) hr
  · show Q_rc8_init Z a1 a2 k3 i4 h0 n0 _ T2.heap _
    exact ⟨x2_x3_x10_x1_b2, x2_x3_x10_x1_k2, rfl, N2, K8, s4, q2_0, q2_1, q2_2, q2_3⟩
def Q_rc7_make (Z : State) (i1 : Int32) (i2 : Int32) (i3 : Int32) (h0 : Heap) (n0 : Nat) (v : Option Value) (h : Heap) (L : List Loc) : Prop := ∃ (b1 : Addr), ∃ (x24_x2_x3_x10_x1_b2 : Addr), ∃ (x24_x2_x3_x10_x1_k2 : ClassId), v = some (.ref b1) ∧ Fr n0 L ∧ Keep h0 h [] ∧ h0.size ≤ b1 ∧ h0.size ≤ x24_x2_x3_x10_x1_b2 ∧ Exa Z h b1 nString_0 ∧ Fld Z h b1 nString_0 "coder" "B" (.int (1 : Int32)) ∧ Fld Z h b1 nString_0 "value" "[B" (.ref x24_x2_x3_x10_x1_b2) ∧ Arv Z h x24_x2_x3_x10_x1_b2 x24_x2_x3_x10_x1_k2 .byte (2 : Int32) [(.int (nar .byte ((i1 >>> ((0 : Int32) &&& 31)).toInt8.toInt32))), (.int (nar .byte ((i1 >>> ((8 : Int32) &&& 31)).toInt8.toInt32)))] (.int (0 : Int32))
set_option maxRecDepth 65536 in
set_option maxHeartbeats 40000000 in
theorem rc7_make (l : Launch) (Z : State) (a0 : Array Value) (hw : ∀ d ∈ tables_1, d.before a0 Z = true) (ws : List Jvm.Cond) (cs : Int32) (hS : SB Z cs) (i1 : Int32) (i2 : Int32) (i3 : Int32) (h0 : Heap) (n0 : Nat) (O0 : Old Z n0 h0) (hy0 : nar .char i1 = i1) (hy3 : (255 : Int32) < i1) :
    Met l my_3 method_2_code 4 (some (.object nString_0)) ws ({ frames := 6, cells := 4, slots := 8, locals := 88 } : Room) #[(.int (1 : Int32)), (.int i1), (.int i2), (.int i3)] Z h0 (Q_rc7_make Z i1 i2 i3 h0 n0) := by
  refine MetFree.of_bodySF (plainFor_of_name pn_2) hisR ?_
  intro p e s m args below meth c s₁ Bd hml0 hP hK
  obtain ⟨rfl, hZ, hh⟩ := hP
  have hx := Bd.exec
  have hby := Bd.bytes
  have hml : c.maxLocals = 4 := hml0
  have hown : s.vm.findClass nUnfore_3 = some m.cls := findClass_of_methodNamed Bd.named
  have hnm := (name_of_methodNamed Bd.named Bd.method).1
  have X0 : Stand p l e ({ frames := 6, cells := 4, slots := 8, locals := 88 } : Room) s m #[(.int (1 : Int32)), (.int i1), (.int i2), (.int i3)] below meth c s₁ [] 0 0 := Stand.of_body Bd
  have e0 : s₁.heap = h0 := by rw [← hh, Bd.state]; rfl
  have N0 := Fr.nil n0
  obtain ⟨f₀, hf₀⟩ : ∃ f, f = entryFrame m #[(.int (1 : Int32)), (.int i1), (.int i2), (.int i3)] 4 := ⟨_, rfl⟩
  rw [← hf₀]
  have pre0 : Go p e below s₁ f₀ s₁ (mkF m 0 #[.val (.int (1 : Int32)), .val (.int i1), .val (.int i2), .val (.int i3)] []) := fun t k => castTop (hf₀.trans (ef_rc7_make m ((1 : Int32)) (i1) (i2) (i3))) k
  obtain ⟨T1, h1, X1, e1, E1, A1, D1, -, st1⟩ := newO X0 hx hZ hown (wq hw 5 rfl) (wq hw 6 rfl) (wq hw 7 rfl) e0 (g := (mkF m 20 #[.val (.int (1 : Int32)), .val (.int i1), .val (.int i2), .val (.int i3)] [])) rfl (hb hby d_method_2_20) (by decide) (by decide)
  obtain ⟨b1, gb1⟩ : ∃ z, z = h0.size := ⟨_, rfl⟩
  rw [← gb1] at A1 D1 st1
  have g2 : n0 ≤ b1 := Nat.le_trans (Nat.le_of_eq O0.1.symm) (Nat.le_trans O0.2.1 (Nat.le_of_eq gb1.symm))
  have s3 : h0.size ≤ b1 := Nat.le_trans (Keep.refl h0 []).1 (Nat.le_of_eq gb1.symm)
  have O4 : Old Z n0 h1 := Old.ext O0 E1
  have K5 : Keep h0 h1 [] := (Keep.refl h0 []).ext E1
  have f6 : Fld Z h1 b1 nString_0 "value" "[B" .null := D1 (Or.inr (wq hw 21 rfl)) (ty := (.array .byte)) (by decide)
  have f7 : Fld Z h1 b1 nString_0 "coder" "B" (.int (0 : Int32)) := D1 (Or.inr (wq hw 22 rfl)) (ty := .byte) (by decide)
  obtain ⟨T8, h8, k8, X8, e8, E8, A8, st8⟩ := newP X1 hx hZ (wq hw 8 rfl) e1 (g := (mkF m 25 #[.val (.int (1 : Int32)), .val (.int i1), .val (.int i2), .val (.int i3)] [(.int (1 : Int32)), (.ref b1), (.ref b1)])) rfl (hb hby d_method_2_25) rfl (by decide) (cap := 1) (by decide) (by decide) (by decide) (by decide)
  obtain ⟨b8, gb8⟩ : ∃ z, z = h1.size := ⟨_, rfl⟩
  rw [← gb8] at A8 st8
  have ne9 : b1 ≠ b8 := Nat.ne_of_lt (Nat.lt_of_lt_of_le A1.lt (Nat.le_of_eq gb8.symm))
  have g10 : n0 ≤ b8 := Nat.le_trans (Nat.le_of_eq O4.1.symm) (Nat.le_trans O4.2.1 (Nat.le_of_eq gb8.symm))
  have s11 : h0.size ≤ b8 := Nat.le_trans K5.1 (Nat.le_of_eq gb8.symm)
  have O12 : Old Z n0 h8 := Old.ext O4 E8
  have K13 : Keep h0 h8 [] := K5.ext E8
  have v14 : Arv Z h8 b8 k8 .char (1 : Int32) [(.int (0 : Int32))] (.int (0 : Int32)) := (Arv.new A8 (by decide)).pad (pad_rep [] (.int (0 : Int32)) 1)
  obtain ⟨c15, Ar15, q15, S15, M15, Hh15, G15⟩ := (id v14)
  have hin15 : ¬ ((0 : Int32) < 0 ∨ c15.slots.size ≤ ((0 : Int32)).toNatClampNeg) := inb_of S15 ⟨by decide, by decide⟩
  obtain ⟨T16, h16, X16, e16, W16, st16⟩ := stC X8 hx hZ e8 Ar15 (j := (0 : Int32)) hin15 (g := (mkF m 30 #[.val (.int (1 : Int32)), .val (.int i1), .val (.int i2), .val (.int i3)] [(.int i1), (.int (0 : Int32)), (.ref b8), (.ref b8), (.ref b1), (.ref b1)])) rfl rfl (hb hby d_method_2_30)
  have v17 : Arv Z h16 b8 k8 .char (1 : Int32) [(.int (nar .char i1))] (.int (0 : Int32)) := Arv.set Ar15 q15 S15 M15 Hh15 G15 (fits_nar_char _) W16 0 rfl (Nat.le_of_ble_eq_true rfl)
  have v18 : Arv Z h16 b8 k8 .char (1 : Int32) [(.int i1)] (.int (0 : Int32)) := by rw [hy0] at v17; exact v17
  have N16 := Fr.snoc X16 N0 g10
  have O19 : Old Z n0 h16 := Old.wr O12 W16 g10
  have K20 : Keep h0 h16 [] := K13.wr W16 (Or.inr s11)
  have t21 : Exa Z h16 b1 nString_0 := ((A1.ext E8).wr W16)
  have t22 : Fld Z h16 b1 nString_0 "coder" "B" (.int (0 : Int32)) := ((f7.ext E8).other W16 (Or.inl ne9))
  have t23 : Fld Z h16 b1 nString_0 "value" "[B" .null := ((f6.ext E8).other W16 (Or.inl ne9))
  obtain ⟨_, _, ⟨T24, L24, k24, n24⟩, -, X24, ⟨Lc24, hQ24, l24, y24, z24⟩, st24⟩ := X16.specialBack hx (y := my_2) rfl hown (mvT hZ (wq hw 9 rfl)) (mvT hZ (wq hw 10 rfl)) (mvT hZ (wq hw 11 rfl)) (by decide) (backOf (W := 1) (rc8_init l Z a0 hw [] cs hS b1 b8 k8 i1 h16 n0 O19 g2 g10 t21 t22 t23 v18 hy0 hy3) hZ (wq hw 11 rfl) (wq hw 7 rfl) (by decide) (by decide)) (g := (mkF m 31 #[.val (.int (1 : Int32)), .val (.int i1), .val (.int i2), .val (.int i3)] [(.ref b8), (.ref b1), (.ref b1)])) rfl (by rw [hml]; rfl) (Steps.refl _) (a := b1) (argsL := [(.ref b8)]) (rest := [(.ref b1)]) (lenOf pd_2 rfl) rfl (by show 2 * 0 + _ ≤ _; exact Nat.le_of_eq rfl) (hb hby d_method_2_31) (fun _ _ => ⟨rfl, e16, (by decide : 2 + 2 ≤ _), (by decide : 5 + 3 ≤ _)⟩)
  dsimp only [Pt.U, Pt.locs, Pt.cells, Pt.slots] at X24 l24 y24 z24 st24 hQ24
  have X24 := own_to X24 l24 y24 z24
  obtain ⟨x24_x2_x3_x10_x1_b2, x24_x2_x3_x10_x1_k2, rfl, N24q, K24, sz24_x2_x3_x10_x1_b2, q24_0, q24_1, q24_2, q24_3⟩ := hQ24
  have N24 := Fr.app N16 N24q
  have g25 : n0 ≤ x24_x2_x3_x10_x1_b2 := Nat.le_trans (Nat.le_of_eq O19.1.symm) (Nat.le_trans O19.2.1 sz24_x2_x3_x10_x1_b2)
  have s26 : h0.size ≤ x24_x2_x3_x10_x1_b2 := Nat.le_trans K20.1 sz24_x2_x3_x10_x1_b2
  have ne27 : b1 ≠ x24_x2_x3_x10_x1_b2 := Nat.ne_of_lt (Nat.lt_of_lt_of_le t21.lt sz24_x2_x3_x10_x1_b2)
  have ne28 : b8 ≠ x24_x2_x3_x10_x1_b2 := Nat.ne_of_lt (Nat.lt_of_lt_of_le v18.lt sz24_x2_x3_x10_x1_b2)
  have O29 : Old Z n0 T24.heap := Old.keep O19 K24 (allS g2 all0)
  have K30 : Keep h0 T24.heap [] := K20.trans K24 (allS (Or.inr s3) all0)
  obtain ⟨fs, hr, hrun, hended, hW, hsame⟩ := X24.leave (v := (some (.ref b1))) (fun h => by rw [Bd.returns] at h; cases h)
  refine ⟨_, _, pre0 _ ?_, hrun, hended, _, _, rfl, ?_, ⟨_, rfl⟩, hW, hsame.mono (by decide) (by decide)⟩
  · refine XS.iloadN X0.here hx rfl (hb hby d_method_2_0) rfl ?_
    refine XS.ifYes X0.here hx rfl (pc0 := 1) (pc' := 15) rfl (hb hby d_method_2_1) rfl ((if0 _ _).trans (feq (by decide : ¬ ((1 : Int32) = (0 : Int32)))).2) (by decide) (by decide) ?_
    refine XS.iloadN X0.here hx rfl (hb hby d_method_2_15) rfl ?_
    refine XS.iconst X0.here hx rfl (hb hby d_method_2_16) ?_
    refine XS.icmpNo X0.here hx rfl (hb hby d_method_2_17) rfl (teq (by decide : (1 : Int32) = (1 : Int32))).2 ?_
    refine st1 _ ?_
    refine XS.dup X1.here hx rfl (hb hby d_method_2_23) rfl rfl ?_
    refine XS.iconst X1.here hx rfl (hb hby d_method_2_24) ?_
    refine st8 _ ?_
    refine XS.dup X8.here hx rfl (hb hby d_method_2_27) rfl rfl ?_
    refine XS.iconst X8.here hx rfl (hb hby d_method_2_28) ?_
    refine XS.iloadN X8.here hx rfl (hb hby d_method_2_29) rfl ?_
    refine st16 _ ?_
    refine st24.trans ?_
    exact retOut X24 hx Bd.returns rfl (Or.inr (Or.inr (Or.inr (Or.inr ⟨rfl, rfl, rfl⟩)))) (hb hby d_method_2_34) hr
  · show Q_rc7_make Z i1 i2 i3 h0 n0 _ T24.heap _
    exact ⟨b1, x24_x2_x3_x10_x1_b2, x24_x2_x3_x10_x1_k2, rfl, N24, K30, s3, s26, q24_0, q24_1, q24_2, q24_3⟩
def Q_rc19_isEmpty (Z : State) (a1 : Addr) (a2 : Addr) (k3 : ClassId) (i4 : Int32) (i5 : Int32) (h0 : Heap) (n0 : Nat) (v : Option Value) (h : Heap) (L : List Loc) : Prop := v = some (.int (0 : Int32)) ∧ Fr n0 L ∧ h = h0
set_option maxRecDepth 65536 in
set_option maxHeartbeats 40000000 in
theorem rc19_isEmpty (l : Launch) (Z : State) (a0 : Array Value) (hw : ∀ d ∈ tables_1, d.before a0 Z = true) (ws : List Jvm.Cond) (cs : Int32) (hS : SB Z cs) (a1 : Addr) (a2 : Addr) (k3 : ClassId) (i4 : Int32) (i5 : Int32) (h0 : Heap) (n0 : Nat) (O0 : Old Z n0 h0) (g_a1 : n0 ≤ a1) (g_a2 : n0 ≤ a2) (F_a1_value : Fld Z h0 a1 nString_0 "value" "[B" (.ref a2)) (V_a2 : Arv Z h0 a2 k3 .byte (2 : Int32) [(.int i4), (.int i5)] (.int (0 : Int32))) :
    Met l my_4 jdk_42_method_55_code 1 (some .boolean) ws ({ frames := 0, cells := 0, slots := 0, locals := 0 } : Room) #[(.ref a1)] Z h0 (Q_rc19_isEmpty Z a1 a2 k3 i4 i5 h0 n0) := by
  refine MetFree.of_bodySF (plainFor_of_name pn_1) hisR ?_
  intro p e s m args below meth c s₁ Bd hml0 hP hK
  obtain ⟨rfl, hZ, hh⟩ := hP
  have hx := Bd.exec
  have hby := Bd.bytes
  have hml : c.maxLocals = 1 := hml0
  have hown : s.vm.findClass nString_0 = some m.cls := findClass_of_methodNamed Bd.named
  have hnm := (name_of_methodNamed Bd.named Bd.method).1
  have X0 : Stand p l e ({ frames := 0, cells := 0, slots := 0, locals := 0 } : Room) s m #[(.ref a1)] below meth c s₁ [] 0 0 := Stand.of_body Bd
  have e0 : s₁.heap = h0 := by rw [← hh, Bd.state]; rfl
  have N0 := Fr.nil n0
  obtain ⟨f₀, hf₀⟩ : ∃ f, f = entryFrame m #[(.ref a1)] 1 := ⟨_, rfl⟩
  rw [← hf₀]
  have pre0 : Go p e below s₁ f₀ s₁ (mkF m 0 #[.val (.ref a1)] []) := fun t k => castTop (hf₀.trans (ef_rc19_isEmpty m (a1))) k
  obtain ⟨T1, X1, e1, st1⟩ := getF X0 hx hZ hown (host := "") (Or.inl (wq hw 25 rfl)) Via.refl e0 F_a1_value (g := (mkF m 1 #[.val (.ref a1)] [(.ref a1)])) rfl rfl (hb hby d_jdk_42_method_55_1)
  obtain ⟨c2, Ar2, q2, S2, M2, Hh2, G2⟩ := (id V_a2)
  obtain ⟨fs, hr, hrun, hended, hW, hsame⟩ := X1.leave (v := (some (.int (0 : Int32)))) (fun h => by rw [Bd.returns] at h; cases h)
  refine ⟨_, _, pre0 _ ?_, hrun, hended, _, _, rfl, ?_, ⟨_, rfl⟩, hW, hsame.mono (by decide) (by decide)⟩
  · refine XS.aloadN X0.here hx rfl (hb hby d_jdk_42_method_55_0) rfl rfl ?_
    refine st1 _ ?_
    refine X1.arraylength hx (by rw [e1]; exact Ar2.1) (State.isArrayOf_alike hZ.alike Ar2.2.1) (g := (mkF m 4 #[.val (.ref a1)] [(.ref a2)])) rfl rfl (hb hby d_jdk_42_method_55_4) _ ?_
    rw [len_of S2 M2]
    refine XS.ifYes X1.here hx rfl (pc0 := 5) (pc' := 12) rfl (hb hby d_jdk_42_method_55_5) rfl ((if0 _ _).trans (feq (by decide : ¬ ((2 : Int32) = (0 : Int32)))).2) (by decide) (by decide) ?_
    refine XS.iconst X1.here hx rfl (hb hby d_jdk_42_method_55_12) ?_
    exact retN X1 hx (t := .boolean) Bd.returns (by simp) (hb hby d_jdk_42_method_55_13) hr
  · show Q_rc19_isEmpty Z a1 a2 k3 i4 i5 h0 n0 _ T1.heap _
    rw [e1]
    exact ⟨rfl, N0, rfl⟩
def Q_rc20_equals (Z : State) (a1 : Addr) (a2 : Addr) (h0 : Heap) (n0 : Nat) (v : Option Value) (h : Heap) (L : List Loc) : Prop := v = some (.int (0 : Int32)) ∧ Fr n0 L ∧ h = h0
set_option maxRecDepth 65536 in
set_option maxHeartbeats 40000000 in
theorem rc20_equals (l : Launch) (Z : State) (a0 : Array Value) (hw : ∀ d ∈ tables_1, d.before a0 Z = true) (ws : List Jvm.Cond) (cs : Int32) (hS : SB Z cs) (a1 : Addr) (a2 : Addr) (h0 : Heap) (n0 : Nat) (O0 : Old Z n0 h0) (g_a1 : n0 ≤ a1) (F_a1_coder : Fld Z h0 a1 nString_0 "coder" "B" (.int (1 : Int32))) (E_a2 : Exa Z h0 a2 nString_0) (F_a2_coder : Fld Z h0 a2 nString_0 "coder" "B" (.int (0 : Int32))) (hy0 : ¬ a1 = a2) :
    Met l my_13 jdk_42_method_66_code 3 (some .boolean) ws ({ frames := 0, cells := 0, slots := 0, locals := 0 } : Room) #[(.ref a1), (.ref a2)] Z h0 (Q_rc20_equals Z a1 a2 h0 n0) := by
  refine MetFree.of_bodySF (plainFor_of_name pn_1) hisR ?_
  intro p e s m args below meth c s₁ Bd hml0 hP hK
  obtain ⟨rfl, hZ, hh⟩ := hP
  have hx := Bd.exec
  have hby := Bd.bytes
  have hml : c.maxLocals = 3 := hml0
  have hown : s.vm.findClass nString_0 = some m.cls := findClass_of_methodNamed Bd.named
  have hnm := (name_of_methodNamed Bd.named Bd.method).1
  have X0 : Stand p l e ({ frames := 0, cells := 0, slots := 0, locals := 0 } : Room) s m #[(.ref a1), (.ref a2)] below meth c s₁ [] 0 0 := Stand.of_body Bd
  have e0 : s₁.heap = h0 := by rw [← hh, Bd.state]; rfl
  have N0 := Fr.nil n0
  obtain ⟨f₀, hf₀⟩ : ∃ f, f = entryFrame m #[(.ref a1), (.ref a2)] 3 := ⟨_, rfl⟩
  rw [← hf₀]
  have pre0 : Go p e below s₁ f₀ s₁ (mkF m 0 #[.val (.ref a1), .val (.ref a2), .unset] []) := fun t k => castTop (hf₀.trans (ef_rc20_equals m (a1) (a2))) k
  obtain ⟨T1, X1, e1, st1⟩ := instY X0 hx hZ hown (wq hw 53 rfl) e0 (Ins.self E_a2) (g := (mkF m 8 #[.val (.ref a1), .val (.ref a2), .unset] [(.ref a2)])) rfl rfl (hb hby d_jdk_42_method_66_8)
  obtain ⟨T2, X2, e2, st2⟩ := castY X1 hx hZ hown (wq hw 53 rfl) e1 (Ins.self E_a2) (g := (mkF m 15 #[.val (.ref a1), .val (.ref a2), .unset] [(.ref a2)])) rfl rfl (hb hby d_jdk_42_method_66_15)
  obtain ⟨T3, X3, e3, st3⟩ := getS2 X2 hx hZ hown (host := "") (Or.inl (wq hw 36 rfl)) Via.refl e2 (hS.1.ext O0.2) (g := (mkF m 19 #[.val (.ref a1), .val (.ref a2), .val (.ref a2)] [])) rfl (hb hby d_jdk_42_method_66_19)
  obtain ⟨T4, X4, e4, st4⟩ := getF X3 hx hZ hown (host := "") (Or.inl (wq hw 26 rfl)) Via.refl e3 F_a1_coder (g := (mkF m 26 #[.val (.ref a1), .val (.ref a2), .val (.ref a2)] [(.ref a1)])) rfl rfl (hb hby d_jdk_42_method_66_26)
  obtain ⟨T5, X5, e5, st5⟩ := getF X4 hx hZ hown (host := "") (Or.inl (wq hw 26 rfl)) Via.refl e4 F_a2_coder (g := (mkF m 30 #[.val (.ref a1), .val (.ref a2), .val (.ref a2)] [(.ref a2), (.int (1 : Int32))])) rfl rfl (hb hby d_jdk_42_method_66_30)
  obtain ⟨fs, hr, hrun, hended, hW, hsame⟩ := X5.leave (v := (some (.int (0 : Int32)))) (fun h => by rw [Bd.returns] at h; cases h)
  refine ⟨_, _, pre0 _ ?_, hrun, hended, _, _, rfl, ?_, ⟨_, rfl⟩, hW, hsame.mono (by decide) (by decide)⟩
  · refine XS.aloadN X0.here hx rfl (hb hby d_jdk_42_method_66_0) rfl rfl ?_
    refine XS.aloadN X0.here hx rfl (hb hby d_jdk_42_method_66_1) rfl rfl ?_
    refine Jvm.RoadKit.acmp (g := (mkF m 2 #[.val (.ref a1), .val (.ref a2), .unset] [(.ref a2), (.ref a1)])) X0 hx rfl rfl rfl (pc0 := 2) (pc' := 7) (same := false) rfl (hb hby d_jdk_42_method_66_2) rfl (decide_eq_false fun q => hy0 (Value.ref.inj q)) (by decide) (by decide) ?_
    refine XS.aloadN X0.here hx rfl (hb hby d_jdk_42_method_66_7) rfl rfl ?_
    refine st1 _ ?_
    refine XS.ifNo X1.here hx rfl (hb hby d_jdk_42_method_66_11) rfl ((if0 _ _).trans (feq (by decide : ¬ ((1 : Int32) = (0 : Int32)))).1) ?_
    refine XS.aloadN X1.here hx rfl (hb hby d_jdk_42_method_66_14) rfl rfl ?_
    refine st2 _ ?_
    refine XS.astoreN X2.here hx rfl (hb hby d_jdk_42_method_66_18) rfl rfl (l' := #[.val (.ref a1), .val (.ref a2), .val (.ref a2)]) rfl ?_
    refine st3 _ ?_
    refine XS.ifNo X3.here hx rfl (hb hby d_jdk_42_method_66_22) rfl ((if0 _ _).trans (feq hS.2.1).1) ?_
    refine XS.aloadN X3.here hx rfl (hb hby d_jdk_42_method_66_25) rfl rfl ?_
    refine st4 _ ?_
    refine XS.aloadN X4.here hx rfl (hb hby d_jdk_42_method_66_29) rfl rfl ?_
    refine st5 _ ?_
    refine XS.icmpYes X5.here hx rfl (pc0 := 33) (pc' := 54) rfl (hb hby d_jdk_42_method_66_33) rfl (feq (by decide : ¬ ((1 : Int32) = (0 : Int32)))).2 (by decide) (by decide) ?_
    refine XS.iconst X5.here hx rfl (hb hby d_jdk_42_method_66_54) ?_
    exact retN X5 hx (t := .boolean) Bd.returns (by simp) (hb hby d_jdk_42_method_66_55) hr
  · show Q_rc20_equals Z a1 a2 h0 n0 _ T5.heap _
    rw [e5]
    exact ⟨rfl, N0, rfl⟩
def Q_rc18_traceAsked (Z : State) (a1 : Addr) (a2 : Addr) (k3 : ClassId) (i4 : Int32) (i5 : Int32) (h0 : Heap) (n0 : Nat) (v : Option Value) (h : Heap) (L : List Loc) : Prop := v = some (.int (1 : Int32)) ∧ Fr n0 L ∧ Keep h0 h []
set_option maxRecDepth 65536 in
set_option maxHeartbeats 40000000 in
theorem rc18_traceAsked (l : Launch) (Z : State) (a0 : Array Value) (hw : ∀ d ∈ tables_1, d.before a0 Z = true) (ws : List Jvm.Cond) (cs : Int32) (hS : SB Z cs) (a1 : Addr) (a2 : Addr) (k3 : ClassId) (i4 : Int32) (i5 : Int32) (h0 : Heap) (n0 : Nat) (O0 : Old Z n0 h0) (g_a1 : n0 ≤ a1) (g_a2 : n0 ≤ a2) (E_a1 : Exa Z h0 a1 nString_0) (F_a1_coder : Fld Z h0 a1 nString_0 "coder" "B" (.int (1 : Int32))) (F_a1_value : Fld Z h0 a1 nString_0 "value" "[B" (.ref a2)) (V_a2 : Arv Z h0 a2 k3 .byte (2 : Int32) [(.int i4), (.int i5)] (.int (0 : Int32))) :
    MetH l my_0 prog_17_method_2_code 1 (some .boolean) ws ({ frames := 1, cells := 2, slots := 8, locals := 14 } : Room) #[(.ref a1)] Z h0 [a1] (Q_rc18_traceAsked Z a1 a2 k3 i4 i5 h0 n0) := by
  refine MetFree.of_bodySF (plainFor_of_name pn_0) hisR ?_
  intro p e s m args below meth c s₁ Bd hml0 hP hK
  obtain ⟨rfl, hZ, hh, hCH⟩ := hP
  have hx := Bd.exec
  have hby := Bd.bytes
  have hml : c.maxLocals = 1 := hml0
  have hown : s.vm.findClass nUnfore_2 = some m.cls := findClass_of_methodNamed Bd.named
  have hnm := (name_of_methodNamed Bd.named Bd.method).1
  have X0 : Stand p l e ({ frames := 1, cells := 2, slots := 8, locals := 14 } : Room) (s.setVm s.vm) m #[(.ref a1)] below meth c s₁ [] 0 0 := Stand.of_body Bd
  have e0 : s₁.heap = h0 := by rw [← hh, Bd.state]; rfl
  have N0 := Fr.nil n0
  obtain ⟨f₀, hf₀⟩ : ∃ f, f = entryFrame m #[(.ref a1)] 1 := ⟨_, rfl⟩
  rw [← hf₀]
  have pre0 : Go p e below s₁ f₀ s₁ (mkF m 0 #[.val (.ref a1)] []) := fun t k => castTop (hf₀.trans (ef_rc18_traceAsked m (a1))) k
  have hZ0 : Z.Warmed39 (s.setVm s.vm).vm := hZ
  have hown0 : (s.setVm s.vm).vm.findClass nUnfore_2 = some m.cls := hown
  have hS0 : s.Since s.vm s.heap.size := (State.WarmedH.refl s).since _
  have hk0 : s.heap.size ≤ h0.size := by rw [hh]; exact Nat.le_refl _
  obtain ⟨cq1, kq1, q1a, q1b, q1c⟩ := isOf hZ0 e0 (E_a1)
  obtain ⟨_, _, ⟨T1, L1, k1, n1⟩, -, X1, ⟨Lc1, hQ1, l1, y1, z1⟩, st1⟩ := X0.virtualBack hx (y := my_4) (z := my_4) hown0 (mvT hZ0 (wq hw 31 rfl)) (mvT hZ0 (wq hw 32 rfl)) (notFace_of_selects (args := #[]) (mvT hZ0 (wq hw 34 rfl))) (mvT hZ0 (wq hw 34 rfl)) (mvT hZ0 (wq hw 33 rfl)) (by decide) (backOf (W := 0) (rc19_isEmpty l Z a0 hw [] cs hS a1 a2 k3 i4 i5 h0 n0 O0 g_a1 g_a2 F_a1_value V_a2) hZ0 (wq hw 35 rfl) (wq hw 7 rfl) (by decide) (by decide)) q1a q1c (g := (mkF m 5 #[.val (.ref a1)] [(.ref a1)])) rfl (by rw [hml]; rfl) (Steps.refl _) (argsL := []) (rest := []) (lenOf pd_4 rfl) rfl (by show 2 * 0 + _ ≤ _; exact Nat.le_of_eq rfl) (hb hby d_prog_17_method_2_5) (fun _ _ => ⟨rfl, e0, (by decide : 0 + 0 ≤ _), (by decide : 0 + 0 ≤ _)⟩)
  dsimp only [Pt.U, Pt.locs, Pt.cells, Pt.slots] at X1 l1 y1 z1 st1 hQ1
  have X1 := own_to X1 l1 y1 z1
  obtain ⟨rfl, N1q, e1⟩ := hQ1
  have N1 := Fr.app N0 N1q
  obtain ⟨sa2, T2, h2, k2, sb2, kc2, X2, e2, E2, hS2, hk2, hZ2, hown2, A2, Fc2, Fv2, Va2, la2, lb2, Cr2, Lt2, hne2, st2⟩ := ldcCH X1 hx hZ0 hown0 (wq hw 47 rfl) (own_wS hw) e1 hS0 hk0 (own_EL hw) (List.mem_of_getElem? (i := 0) rfl) hCH.1 (vs := [(.int (48 : Int32))]) (z := (1 : Int32)) ⟨by decide, rfl⟩ (by decide) rfl (g := (mkF m 12 #[.val (.ref a1)] [(.ref a1)])) rfl (hb hby d_prog_17_method_2_12) (n := 4) (by decide) (by decide) (by decide) (by decide)
  have O3 : Old Z n0 h2 := Old.ext O0 E2
  have K4 : Keep h0 h2 [] := (Keep.refl h0 []).ext E2
  have hk5 := Nat.le_trans hk0 E2.1
  have nn6 := hne2 a1 (Cr2.safe (hCH.2 a1 (List.mem_of_getElem? (i := 0) rfl)).1 (hCH.2 a1 (List.mem_of_getElem? (i := 0) rfl)).2)
  have t7 : Exa Z h2 a1 nString_0 := (E_a1.ext E2)
  have t8 : Fld Z h2 a1 nString_0 "coder" "B" (.int (1 : Int32)) := (F_a1_coder.ext E2)
  obtain ⟨cq9, kq9, q9a, q9b, q9c⟩ := isOf hZ2 e2 (t7)
  obtain ⟨_, _, ⟨T9, L9, k9, n9⟩, -, X9, ⟨Lc9, hQ9, l9, y9, z9⟩, st9⟩ := X2.virtualBack hx (y := my_13) (z := my_13) hown2 (mvT hZ2 (wq hw 48 rfl)) (mvT hZ2 (wq hw 49 rfl)) (notFace_of_selects (args := #[]) (mvT hZ2 (wq hw 51 rfl))) (mvT hZ2 (wq hw 51 rfl)) (mvT hZ2 (wq hw 50 rfl)) (by decide) (backOf (W := 0) (rc20_equals l Z a0 hw [] cs hS a1 sa2 h2 n0 O3 g_a1 t8 A2 Fc2 nn6.1) hZ2 (wq hw 52 rfl) (wq hw 7 rfl) (by decide) (by decide)) q9a q9c (g := (mkF m 14 #[.val (.ref a1)] [(.ref sa2), (.ref a1)])) rfl (by rw [hml]; rfl) (Steps.refl _) (argsL := [(.ref sa2)]) (rest := []) (lenOf pd_12 rfl) rfl (by show 2 * 0 + _ ≤ _; exact Nat.le_of_eq rfl) (hb hby d_prog_17_method_2_14) (fun _ _ => ⟨rfl, e2, (by decide : 2 + 0 ≤ _), (by decide : 8 + 0 ≤ _)⟩)
  dsimp only [Pt.U, Pt.locs, Pt.cells, Pt.slots] at X9 l9 y9 z9 st9 hQ9
  have X9 := own_to X9 l9 y9 z9
  obtain ⟨rfl, N9q, e9⟩ := hQ9
  have N9 := Fr.app N1 N9q
  obtain ⟨fs, hr, hrun, hended, hEW⟩ := Jvm.Stand.leaveW X9 hS2 (by rw [e9]; exact hk2) (v := (some (.int (1 : Int32)))) (fun h => by rw [Bd.returns] at h; cases h)
  refine ⟨_, _, pre0 _ ?_, hrun, hended, _, _, rfl, ?_, ⟨_, rfl⟩, hEW.2.1, hEW.2.2.1, hEW.2.2.2.mono (by decide) (by decide)⟩
  · refine XS.aloadN X0.here hx rfl (hb hby d_prog_17_method_2_0) rfl rfl ?_
    refine XS.ifnullNo X0.here hx rfl (hb hby d_prog_17_method_2_1) rfl ?_
    refine XS.aloadN X0.here hx rfl (hb hby d_prog_17_method_2_4) rfl rfl ?_
    refine st1.trans ?_
    refine XS.ifNo X1.here hx rfl (hb hby d_prog_17_method_2_8) rfl ((if0 _ _).trans (teq (by decide : (0 : Int32) = (0 : Int32))).2) ?_
    refine XS.aloadN X1.here hx rfl (hb hby d_prog_17_method_2_11) rfl rfl ?_
    refine st2 _ ?_
    refine st9.trans ?_
    refine XS.ifNo X9.here hx rfl (hb hby d_prog_17_method_2_17) rfl ((if0 _ _).trans (teq (by decide : (0 : Int32) = (0 : Int32))).2) ?_
    refine XS.iconst X9.here hx rfl (hb hby d_prog_17_method_2_20) ?_
    refine XS.goto X9.here hx rfl (pc0 := 21) (pc' := 25) rfl (hb hby d_prog_17_method_2_21) (by decide) (by decide) ?_
    exact retN X9 hx (t := .boolean) Bd.returns (by simp) (hb hby d_prog_17_method_2_25) hr
  · show Q_rc18_traceAsked Z a1 a2 k3 i4 i5 h0 n0 _ T9.heap _
    rw [e9]
    exact ⟨rfl, N9, K4⟩
def Q_rc25_compress (Z : State) (a1 : Addr) (a2 : Addr) (k3 : ClassId) (i4 : Int32) (k5 : ClassId) (h0 : Heap) (n0 : Nat) (v : Option Value) (h : Heap) (L : List Loc) : Prop := v = some (.int (1 : Int32)) ∧ Fr n0 L ∧ Keep h0 h [a2] ∧ Arv Z h a2 k5 .byte (1 : Int32) [(.int (nar .byte (i4.toInt8.toInt32)))] (.int (0 : Int32))
set_option maxRecDepth 65536 in
set_option maxHeartbeats 40000000 in
theorem rc25_compress (l : Launch) (Z : State) (a0 : Array Value) (hw : ∀ d ∈ tables_1, d.before a0 Z = true) (ws : List Jvm.Cond) (cs : Int32) (hS : SB Z cs) (a1 : Addr) (a2 : Addr) (k3 : ClassId) (i4 : Int32) (k5 : ClassId) (h0 : Heap) (n0 : Nat) (O0 : Old Z n0 h0) (g_a1 : n0 ≤ a1) (g_a2 : n0 ≤ a2) (V_a1 : Arv Z h0 a1 k3 .char (1 : Int32) [(.int i4)] (.int (0 : Int32))) (V_a2 : Arv Z h0 a2 k5 .byte (1 : Int32) [(.int (0 : Int32))] (.int (0 : Int32))) (hy1 : ¬ (255 : Int32) < i4) :
    Met l my_5 jdk_52_method_21_code 7 (some .int) ws ({ frames := 0, cells := 0, slots := 0, locals := 0 } : Room) #[(.ref a1), (.int (0 : Int32)), (.ref a2), (.int (0 : Int32)), (.int (1 : Int32))] Z h0 (Q_rc25_compress Z a1 a2 k3 i4 k5 h0 n0) := by
  refine MetFree.of_bodySF (plainFor_of_name pn_3) hisR ?_
  intro p e s m args below meth c s₁ Bd hml0 hP hK
  obtain ⟨rfl, hZ, hh⟩ := hP
  have hx := Bd.exec
  have hby := Bd.bytes
  have hml : c.maxLocals = 7 := hml0
  have hown : s.vm.findClass nString_1 = some m.cls := findClass_of_methodNamed Bd.named
  have hnm := (name_of_methodNamed Bd.named Bd.method).1
  have X0 : Stand p l e ({ frames := 0, cells := 0, slots := 0, locals := 0 } : Room) s m #[(.ref a1), (.int (0 : Int32)), (.ref a2), (.int (0 : Int32)), (.int (1 : Int32))] below meth c s₁ [] 0 0 := Stand.of_body Bd
  have e0 : s₁.heap = h0 := by rw [← hh, Bd.state]; rfl
  have N0 := Fr.nil n0
  obtain ⟨f₀, hf₀⟩ : ∃ f, f = entryFrame m #[(.ref a1), (.int (0 : Int32)), (.ref a2), (.int (0 : Int32)), (.int (1 : Int32))] 7 := ⟨_, rfl⟩
  rw [← hf₀]
  have pre0 : Go p e below s₁ f₀ s₁ (mkF m 0 #[.val (.ref a1), .val (.int (0 : Int32)), .val (.ref a2), .val (.int (0 : Int32)), .val (.int (1 : Int32)), .unset, .unset] []) := fun t k => castTop (hf₀.trans (ef_rc25_compress m (a1) ((0 : Int32)) (a2) ((0 : Int32)) ((1 : Int32)))) k
  obtain ⟨c1, Ar1, q1, S1, M1, Hh1, G1⟩ := (id V_a1)
  have hin1 : ¬ ((0 : Int32) < 0 ∨ c1.slots.size ≤ ((0 : Int32)).toNatClampNeg) := inb_of S1 ⟨by decide, by decide⟩
  have hat1 : c1.slots[((0 : Int32)).toNatClampNeg]? = some (.int i4) := Hh1.at hin1 rfl
  obtain ⟨c2, Ar2, q2, S2, M2, Hh2, G2⟩ := (id V_a2)
  have hin2 : ¬ ((0 : Int32) < 0 ∨ c2.slots.size ≤ ((0 : Int32)).toNatClampNeg) := inb_of S2 ⟨by decide, by decide⟩
  obtain ⟨T3, h3, X3, e3, W3, st3⟩ := stB X0 hx hZ e0 Ar2 (j := (0 : Int32)) hin2 (g := (mkF m 31 #[.val (.ref a1), .val (.int (0 : Int32)), .val (.ref a2), .val (.int (0 : Int32)), .val (.int (1 : Int32)), .val (.int (0 : Int32)), .val (.int i4)] [(.int (i4.toInt8.toInt32)), (.int (0 : Int32)), (.ref a2)])) rfl rfl (hb hby d_jdk_52_method_21_31)
  have v4 : Arv Z h3 a2 k5 .byte (1 : Int32) [(.int (nar .byte (i4.toInt8.toInt32)))] (.int (0 : Int32)) := Arv.set Ar2 q2 S2 M2 Hh2 G2 (fits_nar_byte _) W3 0 rfl (Nat.le_of_ble_eq_true rfl)
  have N3 := Fr.snoc X3 N0 g_a2
  have O5 : Old Z n0 h3 := Old.wr O0 W3 g_a2
  have K6 : Keep h0 h3 [a2] := (Keep.refl h0 [a2]).wr W3 (Or.inl (List.mem_of_getElem? (i := 0) rfl))
  obtain ⟨fs, hr, hrun, hended, hW, hsame⟩ := X3.leave (v := (some (.int (1 : Int32)))) (fun h => by rw [Bd.returns] at h; cases h)
  refine ⟨_, _, pre0 _ ?_, hrun, hended, _, _, rfl, ?_, ⟨_, rfl⟩, hW, hsame.mono (by decide) (by decide)⟩
  · refine XS.iconst X0.here hx rfl (hb hby d_jdk_52_method_21_0) ?_
    refine XS.istore X0.here hx rfl (hb hby d_jdk_52_method_21_1) rfl (l' := #[.val (.ref a1), .val (.int (0 : Int32)), .val (.ref a2), .val (.int (0 : Int32)), .val (.int (1 : Int32)), .val (.int (0 : Int32)), .unset]) rfl ?_
    refine XS.iload X0.here hx rfl (hb hby d_jdk_52_method_21_3) rfl ?_
    refine XS.iload X0.here hx rfl (hb hby d_jdk_52_method_21_5) rfl ?_
    refine XS.icmpNo X0.here hx rfl (hb hby d_jdk_52_method_21_7) rfl (tlt (by decide : (0 : Int32) < (1 : Int32))).2.1 ?_
    refine XS.aloadN X0.here hx rfl (hb hby d_jdk_52_method_21_10) rfl rfl ?_
    refine XS.iloadN X0.here hx rfl (hb hby d_jdk_52_method_21_11) rfl ?_
    refine X0.caload hx (j := (0 : Int32)) (v := (.int i4)) (by rw [e0]; exact Ar1.1) (State.isArrayOf_alike hZ.alike Ar1.2.1) Ar1.2.2 hin1 hat1 (g := (mkF m 12 #[.val (.ref a1), .val (.int (0 : Int32)), .val (.ref a2), .val (.int (0 : Int32)), .val (.int (1 : Int32)), .val (.int (0 : Int32)), .unset] [(.int (0 : Int32)), (.ref a1)])) rfl rfl (hb hby d_jdk_52_method_21_12) _ ?_
    refine XS.istore X0.here hx rfl (hb hby d_jdk_52_method_21_13) rfl (l' := #[.val (.ref a1), .val (.int (0 : Int32)), .val (.ref a2), .val (.int (0 : Int32)), .val (.int (1 : Int32)), .val (.int (0 : Int32)), .val (.int i4)]) rfl ?_
    refine XS.iload X0.here hx rfl (hb hby d_jdk_52_method_21_15) rfl ?_
    refine XS.sipush X0.here hx rfl (hb hby d_jdk_52_method_21_17) ?_
    refine XS.icmpYes X0.here hx rfl (pc0 := 20) (pc' := 26) rfl (hb hby d_jdk_52_method_21_20) rfl (flt hy1).2.2.2 (by decide) (by decide) ?_
    refine XS.aloadN X0.here hx rfl (hb hby d_jdk_52_method_21_26) rfl rfl ?_
    refine XS.iloadN X0.here hx rfl (hb hby d_jdk_52_method_21_27) rfl ?_
    refine XS.iload X0.here hx rfl (hb hby d_jdk_52_method_21_28) rfl ?_
    refine XS.i2b X0.here hx rfl (hb hby d_jdk_52_method_21_30) rfl ?_
    refine st3 _ ?_
    refine XS.iinc X3.here hx rfl (hb hby d_jdk_52_method_21_32) rfl (l' := #[.val (.ref a1), .val (.int (1 : Int32)), .val (.ref a2), .val (.int (0 : Int32)), .val (.int (1 : Int32)), .val (.int (0 : Int32)), .val (.int i4)]) rfl ?_
    refine XS.iinc X3.here hx rfl (hb hby d_jdk_52_method_21_35) rfl (l' := #[.val (.ref a1), .val (.int (1 : Int32)), .val (.ref a2), .val (.int (1 : Int32)), .val (.int (1 : Int32)), .val (.int (0 : Int32)), .val (.int i4)]) rfl ?_
    refine XS.iinc X3.here hx rfl (hb hby d_jdk_52_method_21_38) rfl (l' := #[.val (.ref a1), .val (.int (1 : Int32)), .val (.ref a2), .val (.int (1 : Int32)), .val (.int (1 : Int32)), .val (.int (1 : Int32)), .val (.int i4)]) rfl ?_
    refine XS.goto X3.here hx rfl (pc0 := 41) (pc' := 3) rfl (hb hby d_jdk_52_method_21_41) (by decide) (by decide) ?_
    refine XS.iload X3.here hx rfl (hb hby d_jdk_52_method_21_3) rfl ?_
    refine XS.iload X3.here hx rfl (hb hby d_jdk_52_method_21_5) rfl ?_
    refine XS.icmpYes X3.here hx rfl (pc0 := 7) (pc' := 44) rfl (hb hby d_jdk_52_method_21_7) rfl (flt (by decide : ¬ ((1 : Int32) < (1 : Int32)))).2.1 (by decide) (by decide) ?_
    refine XS.iload X3.here hx rfl (hb hby d_jdk_52_method_21_44) rfl ?_
    exact retI X3 hx Bd.returns (hb hby d_jdk_52_method_21_46) hr
  · show Q_rc25_compress Z a1 a2 k3 i4 k5 h0 n0 _ T3.heap _
    rw [e3]
    exact ⟨rfl, N3, K6, v4⟩
def Q_rc24_compress (Z : State) (a1 : Addr) (k2 : ClassId) (i3 : Int32) (h0 : Heap) (n0 : Nat) (v : Option Value) (h : Heap) (L : List Loc) : Prop := ∃ (b1 : Addr), ∃ (k1 : ClassId), v = some (.ref b1) ∧ Fr n0 L ∧ Keep h0 h [] ∧ h0.size ≤ b1 ∧ Arv Z h b1 k1 .byte (1 : Int32) [(.int (nar .byte (i3.toInt8.toInt32)))] (.int (0 : Int32))
set_option maxRecDepth 65536 in
set_option maxHeartbeats 40000000 in
theorem rc24_compress (l : Launch) (Z : State) (a0 : Array Value) (hw : ∀ d ∈ tables_1, d.before a0 Z = true) (ws : List Jvm.Cond) (cs : Int32) (hS : SB Z cs) (a1 : Addr) (k2 : ClassId) (i3 : Int32) (h0 : Heap) (n0 : Nat) (O0 : Old Z n0 h0) (g_a1 : n0 ≤ a1) (V_a1 : Arv Z h0 a1 k2 .char (1 : Int32) [(.int i3)] (.int (0 : Int32))) (hy1 : ¬ (255 : Int32) < i3) :
    Met l my_11 jdk_52_method_16_code 6 (some (.array .byte)) ws ({ frames := 1, cells := 1, slots := 1, locals := 18 } : Room) #[(.ref a1), (.int (0 : Int32)), (.int (1 : Int32))] Z h0 (Q_rc24_compress Z a1 k2 i3 h0 n0) := by
  refine MetFree.of_bodySF (plainFor_of_name pn_3) hisR ?_
  intro p e s m args below meth c s₁ Bd hml0 hP hK
  obtain ⟨rfl, hZ, hh⟩ := hP
  have hx := Bd.exec
  have hby := Bd.bytes
  have hml : c.maxLocals = 6 := hml0
  have hown : s.vm.findClass nString_1 = some m.cls := findClass_of_methodNamed Bd.named
  have hnm := (name_of_methodNamed Bd.named Bd.method).1
  have X0 : Stand p l e ({ frames := 1, cells := 1, slots := 1, locals := 18 } : Room) s m #[(.ref a1), (.int (0 : Int32)), (.int (1 : Int32))] below meth c s₁ [] 0 0 := Stand.of_body Bd
  have e0 : s₁.heap = h0 := by rw [← hh, Bd.state]; rfl
  have N0 := Fr.nil n0
  obtain ⟨f₀, hf₀⟩ : ∃ f, f = entryFrame m #[(.ref a1), (.int (0 : Int32)), (.int (1 : Int32))] 6 := ⟨_, rfl⟩
  rw [← hf₀]
  have pre0 : Go p e below s₁ f₀ s₁ (mkF m 0 #[.val (.ref a1), .val (.int (0 : Int32)), .val (.int (1 : Int32)), .unset, .unset, .unset] []) := fun t k => castTop (hf₀.trans (ef_rc24_compress m (a1) ((0 : Int32)) ((1 : Int32)))) k
  obtain ⟨T1, h1, k1, X1, e1, E1, A1, st1⟩ := newP X0 hx hZ (wq hw 20 rfl) e0 (g := (mkF m 1 #[.val (.ref a1), .val (.int (0 : Int32)), .val (.int (1 : Int32)), .unset, .unset, .unset] [(.int (1 : Int32))])) rfl (hb hby d_jdk_52_method_16_1) rfl (by decide) (cap := 1) (by decide) (by decide) (by decide) (by decide)
  obtain ⟨b1, gb1⟩ : ∃ z, z = h0.size := ⟨_, rfl⟩
  rw [← gb1] at A1 st1
  have ne2 : a1 ≠ b1 := Nat.ne_of_lt (Nat.lt_of_lt_of_le V_a1.lt (Nat.le_of_eq gb1.symm))
  have g3 : n0 ≤ b1 := Nat.le_trans (Nat.le_of_eq O0.1.symm) (Nat.le_trans O0.2.1 (Nat.le_of_eq gb1.symm))
  have s4 : h0.size ≤ b1 := Nat.le_trans (Keep.refl h0 []).1 (Nat.le_of_eq gb1.symm)
  have O5 : Old Z n0 h1 := Old.ext O0 E1
  have K6 : Keep h0 h1 [] := (Keep.refl h0 []).ext E1
  have v7 : Arv Z h1 b1 k1 .byte (1 : Int32) [(.int (0 : Int32))] (.int (0 : Int32)) := (Arv.new A1 (by decide)).pad (pad_rep [] (.int (0 : Int32)) 1)
  have t8 : Arv Z h1 a1 k2 .char (1 : Int32) [(.int i3)] (.int (0 : Int32)) := (V_a1.ext E1)
  obtain ⟨_, _, ⟨T9, L9, k9, n9⟩, -, X9, ⟨Lc9, hQ9, l9, y9, z9⟩, st9⟩ := Jvm.LawKit.callS X1 hx (y := my_5) hown (mvT hZ (wq hw 41 rfl)) (mvT hZ (wq hw 42 rfl)) (mvT hZ (wq hw 39 rfl)) (mvT hZ (wq hw 43 rfl)) (by decide) (backOf (W := 0) (rc25_compress l Z a0 hw [] cs hS a1 b1 k2 i3 k1 h1 n0 O5 g_a1 g3 t8 v7 hy1) hZ (wq hw 43 rfl) (wq hw 39 rfl) (by decide) (by decide)) (g := (mkF m 9 #[.val (.ref a1), .val (.int (0 : Int32)), .val (.int (1 : Int32)), .val (.ref b1), .unset, .unset] [(.int (1 : Int32)), (.int (0 : Int32)), (.ref b1), (.int (0 : Int32)), (.ref a1)])) rfl (by rw [hml]; rfl) (argsL := [(.ref a1), (.int (0 : Int32)), (.ref b1), (.int (0 : Int32)), (.int (1 : Int32))]) (rest := []) (lenOf pd_5 rfl) rfl (by show 2 * 0 + _ ≤ _; exact Nat.le_of_eq rfl) (hb hby d_jdk_52_method_16_9) (fun _ _ => ⟨rfl, e1, (by decide : 1 + 0 ≤ _), (by decide : 1 + 0 ≤ _)⟩)
  dsimp only [Pt.U, Pt.locs, Pt.cells, Pt.slots] at X9 l9 y9 z9 st9 hQ9
  have X9 := own_to X9 l9 y9 z9
  obtain ⟨rfl, N9q, K9, q9_0⟩ := hQ9
  have N9 := Fr.app N0 N9q
  have O10 : Old Z n0 T9.heap := Old.keep O5 K9 (allS g3 all0)
  have K11 : Keep h0 T9.heap [] := K6.trans K9 (allS (Or.inr s4) all0)
  obtain ⟨fs, hr, hrun, hended, hW, hsame⟩ := X9.leave (v := (some (.ref b1))) (fun h => by rw [Bd.returns] at h; cases h)
  refine ⟨_, _, pre0 _ ?_, hrun, hended, _, _, rfl, ?_, ⟨_, rfl⟩, hW, hsame.mono (by decide) (by decide)⟩
  · refine XS.iloadN X0.here hx rfl (hb hby d_jdk_52_method_16_0) rfl ?_
    refine st1 _ ?_
    refine XS.astoreN X1.here hx rfl (hb hby d_jdk_52_method_16_3) rfl rfl (l' := #[.val (.ref a1), .val (.int (0 : Int32)), .val (.int (1 : Int32)), .val (.ref b1), .unset, .unset]) rfl ?_
    refine XS.aloadN X1.here hx rfl (hb hby d_jdk_52_method_16_4) rfl rfl ?_
    refine XS.iloadN X1.here hx rfl (hb hby d_jdk_52_method_16_5) rfl ?_
    refine XS.aloadN X1.here hx rfl (hb hby d_jdk_52_method_16_6) rfl rfl ?_
    refine XS.iconst X1.here hx rfl (hb hby d_jdk_52_method_16_7) ?_
    refine XS.iloadN X1.here hx rfl (hb hby d_jdk_52_method_16_8) rfl ?_
    refine st9 _ ?_
    refine XS.istore X9.here hx rfl (hb hby d_jdk_52_method_16_12) rfl (l' := #[.val (.ref a1), .val (.int (0 : Int32)), .val (.int (1 : Int32)), .val (.ref b1), .val (.int (1 : Int32)), .unset]) rfl ?_
    refine XS.iload X9.here hx rfl (hb hby d_jdk_52_method_16_14) rfl ?_
    refine XS.iloadN X9.here hx rfl (hb hby d_jdk_52_method_16_16) rfl ?_
    refine XS.icmpYes X9.here hx rfl (pc0 := 17) (pc' := 57) rfl (hb hby d_jdk_52_method_16_17) rfl (teq (by decide : (1 : Int32) = (1 : Int32))).1 (by decide) (by decide) ?_
    refine XS.aloadN X9.here hx rfl (hb hby d_jdk_52_method_16_57) rfl rfl ?_
    exact retOut X9 hx Bd.returns rfl (Or.inr (Or.inr (Or.inr (Or.inr ⟨rfl, rfl, rfl⟩)))) (hb hby d_jdk_52_method_16_58) hr
  · show Q_rc24_compress Z a1 k2 i3 h0 n0 _ T9.heap _
    exact ⟨b1, k1, rfl, N9, K11, s4, q9_0⟩
def Q_rc26_coderFromArrayLen (Z : State) (a1 : Addr) (k2 : ClassId) (i3 : Int32) (h0 : Heap) (n0 : Nat) (v : Option Value) (h : Heap) (L : List Loc) : Prop := v = some (.int (0 : Int32)) ∧ Fr n0 L ∧ h = h0
set_option maxRecDepth 65536 in
set_option maxHeartbeats 40000000 in
theorem rc26_coderFromArrayLen (l : Launch) (Z : State) (a0 : Array Value) (hw : ∀ d ∈ tables_1, d.before a0 Z = true) (ws : List Jvm.Cond) (cs : Int32) (hS : SB Z cs) (a1 : Addr) (k2 : ClassId) (i3 : Int32) (h0 : Heap) (n0 : Nat) (O0 : Old Z n0 h0) (g_a1 : n0 ≤ a1) (V_a1 : Arv Z h0 a1 k2 .byte (1 : Int32) [(.int i3)] (.int (0 : Int32))) :
    Met l my_12 jdk_52_method_15_code 2 (some .byte) ws ({ frames := 0, cells := 0, slots := 0, locals := 0 } : Room) #[(.ref a1), (.int (1 : Int32))] Z h0 (Q_rc26_coderFromArrayLen Z a1 k2 i3 h0 n0) := by
  refine MetFree.of_bodySF (plainFor_of_name pn_3) hisR ?_
  intro p e s m args below meth c s₁ Bd hml0 hP hK
  obtain ⟨rfl, hZ, hh⟩ := hP
  have hx := Bd.exec
  have hby := Bd.bytes
  have hml : c.maxLocals = 2 := hml0
  have hown : s.vm.findClass nString_1 = some m.cls := findClass_of_methodNamed Bd.named
  have hnm := (name_of_methodNamed Bd.named Bd.method).1
  have X0 : Stand p l e ({ frames := 0, cells := 0, slots := 0, locals := 0 } : Room) s m #[(.ref a1), (.int (1 : Int32))] below meth c s₁ [] 0 0 := Stand.of_body Bd
  have e0 : s₁.heap = h0 := by rw [← hh, Bd.state]; rfl
  have N0 := Fr.nil n0
  obtain ⟨f₀, hf₀⟩ : ∃ f, f = entryFrame m #[(.ref a1), (.int (1 : Int32))] 2 := ⟨_, rfl⟩
  rw [← hf₀]
  have pre0 : Go p e below s₁ f₀ s₁ (mkF m 0 #[.val (.ref a1), .val (.int (1 : Int32))] []) := fun t k => castTop (hf₀.trans (ef_rc26_coderFromArrayLen m (a1) ((1 : Int32)))) k
  obtain ⟨c1, Ar1, q1, S1, M1, Hh1, G1⟩ := (id V_a1)
  obtain ⟨fs, hr, hrun, hended, hW, hsame⟩ := X0.leave (v := (some (.int (0 : Int32)))) (fun h => by rw [Bd.returns] at h; cases h)
  refine ⟨_, _, pre0 _ ?_, hrun, hended, _, _, rfl, ?_, ⟨_, rfl⟩, hW, hsame.mono (by decide) (by decide)⟩
  · refine XS.iloadN X0.here hx rfl (hb hby d_jdk_52_method_15_0) rfl ?_
    refine XS.aloadN X0.here hx rfl (hb hby d_jdk_52_method_15_1) rfl rfl ?_
    refine X0.arraylength hx (by rw [e0]; exact Ar1.1) (State.isArrayOf_alike hZ.alike Ar1.2.1) (g := (mkF m 2 #[.val (.ref a1), .val (.int (1 : Int32))] [(.ref a1), (.int (1 : Int32))])) rfl rfl (hb hby d_jdk_52_method_15_2) _ ?_
    rw [len_of S1 M1]
    refine XS.isub X0.here hx rfl (hb hby d_jdk_52_method_15_3) rfl ?_
    show Steps p.tables e below (s₁.setTop (mkF m 4 #[.val (.ref a1), .val (.int (1 : Int32))] [(.int (0 : Int32))])) _
    refine XS.bipush X0.here hx rfl (hb hby d_jdk_52_method_15_4) ?_
    refine XS.iushr X0.here hx rfl (hb hby d_jdk_52_method_15_6) rfl ?_
    show Steps p.tables e below (s₁.setTop (mkF m 7 #[.val (.ref a1), .val (.int (1 : Int32))] [(.int (0 : Int32))])) _
    refine XS.i2b X0.here hx rfl (hb hby d_jdk_52_method_15_7) rfl ?_
    show Steps p.tables e below (s₁.setTop (mkF m 8 #[.val (.ref a1), .val (.int (1 : Int32))] [(.int (0 : Int32))])) _
    exact retN X0 hx (t := .byte) Bd.returns (by simp) (hb hby d_jdk_52_method_15_8) hr
  · show Q_rc26_coderFromArrayLen Z a1 k2 i3 h0 n0 _ s₁.heap _
    rw [e0]
    exact ⟨rfl, N0, rfl⟩
def Q_rc23_init (Z : State) (a1 : Addr) (a2 : Addr) (k3 : ClassId) (i4 : Int32) (h0 : Heap) (n0 : Nat) (v : Option Value) (h : Heap) (L : List Loc) : Prop := ∃ (x3_b1 : Addr), ∃ (x3_k1 : ClassId), v = none ∧ Fr n0 L ∧ Keep h0 h [a1] ∧ h0.size ≤ x3_b1 ∧ Exa Z h a1 nString_0 ∧ Fld Z h a1 nString_0 "coder" "B" (.int (0 : Int32)) ∧ Fld Z h a1 nString_0 "value" "[B" (.ref x3_b1) ∧ Arv Z h x3_b1 x3_k1 .byte (1 : Int32) [(.int (nar .byte (i4.toInt8.toInt32)))] (.int (0 : Int32))
set_option maxRecDepth 65536 in
set_option maxHeartbeats 40000000 in
theorem rc23_init (l : Launch) (Z : State) (a0 : Array Value) (hw : ∀ d ∈ tables_1, d.before a0 Z = true) (ws : List Jvm.Cond) (cs : Int32) (hS : SB Z cs) (a1 : Addr) (a2 : Addr) (k3 : ClassId) (i4 : Int32) (h0 : Heap) (n0 : Nat) (O0 : Old Z n0 h0) (g_a1 : n0 ≤ a1) (g_a2 : n0 ≤ a2) (E_a1 : Exa Z h0 a1 nString_0) (F_a1_coder : Fld Z h0 a1 nString_0 "coder" "B" (.int (0 : Int32))) (F_a1_value : Fld Z h0 a1 nString_0 "value" "[B" .null) (V_a2 : Arv Z h0 a2 k3 .char (1 : Int32) [(.int i4)] (.int (0 : Int32))) (hy1 : ¬ (255 : Int32) < i4) :
    Met l my_1 jdk_42_method_149_code 6 none ws ({ frames := 2, cells := 1, slots := 1, locals := 35 } : Room) #[(.ref a1), (.ref a2), (.int (0 : Int32)), (.int (1 : Int32)), .null] Z h0 (Q_rc23_init Z a1 a2 k3 i4 h0 n0) := by
  refine MetFree.of_bodySF (plainFor_of_name pn_1) hisR ?_
  intro p e s m args below meth c s₁ Bd hml0 hP hK
  obtain ⟨rfl, hZ, hh⟩ := hP
  have hx := Bd.exec
  have hby := Bd.bytes
  have hml : c.maxLocals = 6 := hml0
  have hown : s.vm.findClass nString_0 = some m.cls := findClass_of_methodNamed Bd.named
  have hnm := (name_of_methodNamed Bd.named Bd.method).1
  have X0 : Stand p l e ({ frames := 2, cells := 1, slots := 1, locals := 35 } : Room) s m #[(.ref a1), (.ref a2), (.int (0 : Int32)), (.int (1 : Int32)), .null] below meth c s₁ [] 0 0 := Stand.of_body Bd
  have e0 : s₁.heap = h0 := by rw [← hh, Bd.state]; rfl
  have N0 := Fr.nil n0
  obtain ⟨f₀, hf₀⟩ : ∃ f, f = entryFrame m #[(.ref a1), (.ref a2), (.int (0 : Int32)), (.int (1 : Int32)), .null] 6 := ⟨_, rfl⟩
  rw [← hf₀]
  have pre0 : Go p e below s₁ f₀ s₁ (mkF m 0 #[.val (.ref a1), .val (.ref a2), .val (.int (0 : Int32)), .val (.int (1 : Int32)), .val .null, .unset] []) := fun t k => castTop (hf₀.trans (ef_rc23_init m (a1) (a2) ((0 : Int32)) ((1 : Int32)))) k
  obtain ⟨T1, X1, e1, st1⟩ := initO X0 hx hZ hown (wq hw 16 rfl) (wq hw 17 rfl) (wq hw 18 rfl) e0 (g := (mkF m 1 #[.val (.ref a1), .val (.ref a2), .val (.int (0 : Int32)), .val (.int (1 : Int32)), .val .null, .unset] [(.ref a1)])) rfl (by rw [hml]; rfl) rfl (hb hby d_jdk_42_method_149_1) (by decide) (W := 0) (by show 2 * 0 + _ ≤ _; exact Nat.le_of_eq rfl) (by decide)
  obtain ⟨T2, X2, e2, st2⟩ := getS2 X1 hx hZ hown (host := "") (Or.inl (wq hw 36 rfl)) Via.refl e1 (hS.1.ext O0.2) (g := (mkF m 27 #[.val (.ref a1), .val (.ref a2), .val (.int (0 : Int32)), .val (.int (1 : Int32)), .val .null, .unset] [])) rfl (hb hby d_jdk_42_method_149_27)
  obtain ⟨_, _, ⟨T3, L3, k3, n3⟩, -, X3, ⟨Lc3, hQ3, l3, y3, z3⟩, st3⟩ := Jvm.LawKit.callS X2 hx (y := my_11) hown (mvT hZ (wq hw 37 rfl)) (mvT hZ (wq hw 38 rfl)) (mvT hZ (wq hw 39 rfl)) (mvT hZ (wq hw 40 rfl)) (by decide) (backOf (W := 0) (rc24_compress l Z a0 hw [] cs hS a2 k3 i4 h0 n0 O0 g_a2 V_a2 hy1) hZ (wq hw 40 rfl) (wq hw 39 rfl) (by decide) (by decide)) (g := (mkF m 36 #[.val (.ref a1), .val (.ref a2), .val (.int (0 : Int32)), .val (.int (1 : Int32)), .val .null, .unset] [(.int (1 : Int32)), (.int (0 : Int32)), (.ref a2)])) rfl (by rw [hml]; rfl) (argsL := [(.ref a2), (.int (0 : Int32)), (.int (1 : Int32))]) (rest := []) (lenOf pd_9 rfl) rfl (by show 2 * 0 + _ ≤ _; exact Nat.le_of_eq rfl) (hb hby d_jdk_42_method_149_36) (fun _ _ => ⟨rfl, e2, (by decide : 0 + 1 ≤ _), (by decide : 0 + 1 ≤ _)⟩)
  dsimp only [Pt.U, Pt.locs, Pt.cells, Pt.slots] at X3 l3 y3 z3 st3 hQ3
  have X3 := own_to X3 l3 y3 z3
  obtain ⟨x3_b1, x3_k1, rfl, N3q, K3, sz3_b1, q3_0⟩ := hQ3
  have N3 := Fr.app N0 N3q
  have g4 : n0 ≤ x3_b1 := Nat.le_trans (Nat.le_of_eq O0.1.symm) (Nat.le_trans O0.2.1 sz3_b1)
  have s5 : h0.size ≤ x3_b1 := Nat.le_trans (Keep.refl h0 [a1]).1 sz3_b1
  have ne6 : a1 ≠ x3_b1 := Nat.ne_of_lt (Nat.lt_of_lt_of_le E_a1.lt sz3_b1)
  have ne7 : a2 ≠ x3_b1 := Nat.ne_of_lt (Nat.lt_of_lt_of_le V_a2.lt sz3_b1)
  have O8 : Old Z n0 T3.heap := Old.keep O0 K3 all0
  have K9 : Keep h0 T3.heap [a1] := (Keep.refl h0 [a1]).trans K3 all0
  obtain ⟨_, _, ⟨T10, L10, k10, n10⟩, -, X10, ⟨Lc10, hQ10, l10, y10, z10⟩, st10⟩ := Jvm.LawKit.callS X3 hx (y := my_12) hown (mvT hZ (wq hw 44 rfl)) (mvT hZ (wq hw 45 rfl)) (mvT hZ (wq hw 39 rfl)) (mvT hZ (wq hw 46 rfl)) (by decide) (backOf (W := 1) (rc26_coderFromArrayLen l Z a0 hw [] cs hS x3_b1 x3_k1 (nar .byte (i4.toInt8.toInt32)) T3.heap n0 O8 g4 q3_0) hZ (wq hw 46 rfl) (wq hw 39 rfl) (by decide) (by decide)) (g := (mkF m 45 #[.val (.ref a1), .val (.ref a2), .val (.int (0 : Int32)), .val (.int (1 : Int32)), .val .null, .val (.ref x3_b1)] [(.int (1 : Int32)), (.ref x3_b1), (.ref a1)])) rfl (by rw [hml]; rfl) (argsL := [(.ref x3_b1), (.int (1 : Int32))]) (rest := [(.ref a1)]) (lenOf pd_11 rfl) rfl (by show 2 * 0 + _ ≤ _; exact Nat.le_of_eq rfl) (hb hby d_jdk_42_method_149_45) (fun _ _ => ⟨rfl, rfl, (by decide : 1 + 0 ≤ _), (by decide : 1 + 0 ≤ _)⟩)
  dsimp only [Pt.U, Pt.locs, Pt.cells, Pt.slots] at X10 l10 y10 z10 st10 hQ10
  have X10 := own_to X10 l10 y10 z10
  obtain ⟨rfl, N10q, e10⟩ := hQ10
  have N10 := Fr.app N3 N10q
  have t11 : Exa Z T3.heap a1 nString_0 := (E_a1.keep K3)
  have t12 : Fld Z T3.heap a1 nString_0 "coder" "B" (.int (0 : Int32)) := (F_a1_coder.keep K3 nin0)
  obtain ⟨T13, h13, X13, e13, W13, st13⟩ := putFN X10 hx hZ hown (wq hw 26 rfl) Via.refl e10 t12 t11 (Or.inr ⟨(wq hw 22 rfl), rfl, hnm⟩) (wq hw 6 rfl) (ty := .byte) (v' := (.int (0 : Int32))) (by decide) rfl (by decide +kernel) (g := (mkF m 48 #[.val (.ref a1), .val (.ref a2), .val (.int (0 : Int32)), .val (.int (1 : Int32)), .val .null, .val (.ref x3_b1)] [(.int (0 : Int32)), (.ref a1)])) rfl rfl (hb hby d_jdk_42_method_149_48)
  have f14 : Fld Z h13 a1 nString_0 "coder" "B" (.int (0 : Int32)) := t12.same W13
  have N13 := Fr.snoc X13 N10 g_a1
  have O15 : Old Z n0 h13 := Old.wr O8 W13 g_a1
  have K16 : Keep h0 h13 [a1] := K9.wr W13 (Or.inl (List.mem_of_getElem? (i := 0) rfl))
  have t17 : Exa Z h13 a1 nString_0 := (t11.wr W13)
  have t18 : Fld Z h13 a1 nString_0 "value" "[B" .null := ((F_a1_value.keep K3 nin0).other W13 (Or.inr (slot_ne (Or.inr (wq hw 21 rfl)) (Or.inr (wq hw 22 rfl)) (by decide) (t := (.array .byte)) (t' := .byte) (by decide) (by decide))))
  obtain ⟨T19, h19, X19, e19, W19, st19⟩ := putF X13 hx hZ hown (host := "") (Or.inl (wq hw 25 rfl)) Via.refl e13 t18 t17 (Or.inr ⟨(wq hw 21 rfl), rfl, hnm⟩) (wq hw 6 rfl) (ty := (.array .byte)) (by decide) rfl rfl (g := (mkF m 54 #[.val (.ref a1), .val (.ref a2), .val (.int (0 : Int32)), .val (.int (1 : Int32)), .val .null, .val (.ref x3_b1)] [(.ref x3_b1), (.ref a1)])) rfl rfl (hb hby d_jdk_42_method_149_54)
  have f20 : Fld Z h19 a1 nString_0 "value" "[B" (.ref x3_b1) := t18.same W19
  have N19 := Fr.snoc X19 N13 g_a1
  have O21 : Old Z n0 h19 := Old.wr O15 W19 g_a1
  have K22 : Keep h0 h19 [a1] := K16.wr W19 (Or.inl (List.mem_of_getElem? (i := 0) rfl))
  have t23 : Exa Z h19 a1 nString_0 := (t17.wr W19)
  have t24 : Fld Z h19 a1 nString_0 "coder" "B" (.int (0 : Int32)) := (f14.other W19 (Or.inr (slot_ne (Or.inr (wq hw 22 rfl)) (Or.inr (wq hw 21 rfl)) (by decide) (t := .byte) (t' := (.array .byte)) (by decide) (by decide))))
  have t25 : Arv Z h19 x3_b1 x3_k1 .byte (1 : Int32) [(.int (nar .byte (i4.toInt8.toInt32)))] (.int (0 : Int32)) := ((q3_0.other W13 (Ne.symm ne6)).other W19 (Ne.symm ne6))
  obtain ⟨fs, hr, hrun, hended, hW, hsame⟩ := X19.leave (v := none) (fun _ => rfl)
  refine ⟨_, _, pre0 _ ?_, hrun, hended, _, _, rfl, ?_, ⟨_, rfl⟩, hW, hsame.mono (by decide) (by decide)⟩
  · refine XS.aloadN X0.here hx rfl (hb hby d_jdk_42_method_149_0) rfl rfl ?_
    refine st1 _ ?_
    refine XS.iloadN X1.here hx rfl (hb hby d_jdk_42_method_149_4) rfl ?_
    refine XS.ifYes X1.here hx rfl (pc0 := 5) (pc' := 27) rfl (hb hby d_jdk_42_method_149_5) rfl ((if0 _ _).trans (feq (by decide : ¬ ((1 : Int32) = (0 : Int32)))).2) (by decide) (by decide) ?_
    refine st2 _ ?_
    refine XS.ifNo X2.here hx rfl (hb hby d_jdk_42_method_149_30) rfl ((if0 _ _).trans (feq hS.2.1).1) ?_
    refine XS.aloadN X2.here hx rfl (hb hby d_jdk_42_method_149_33) rfl rfl ?_
    refine XS.iloadN X2.here hx rfl (hb hby d_jdk_42_method_149_34) rfl ?_
    refine XS.iloadN X2.here hx rfl (hb hby d_jdk_42_method_149_35) rfl ?_
    refine st3 _ ?_
    refine XS.astore X3.here hx rfl (hb hby d_jdk_42_method_149_39) rfl rfl (l' := #[.val (.ref a1), .val (.ref a2), .val (.int (0 : Int32)), .val (.int (1 : Int32)), .val .null, .val (.ref x3_b1)]) rfl ?_
    refine XS.aloadN X3.here hx rfl (hb hby d_jdk_42_method_149_41) rfl rfl ?_
    refine XS.aload X3.here hx rfl (hb hby d_jdk_42_method_149_42) rfl rfl ?_
    refine XS.iloadN X3.here hx rfl (hb hby d_jdk_42_method_149_44) rfl ?_
    refine st10 _ ?_
    refine st13 _ ?_
    refine XS.aloadN X13.here hx rfl (hb hby d_jdk_42_method_149_51) rfl rfl ?_
    refine XS.aload X13.here hx rfl (hb hby d_jdk_42_method_149_52) rfl rfl ?_
    refine st19 _ ?_
    exact X19.returnOut hx Bd.returns (hb hby d_jdk_42_method_149_57) hr
  · show Q_rc23_init Z a1 a2 k3 i4 h0 n0 _ T19.heap _
    rw [e19]
    exact ⟨x3_b1, x3_k1, rfl, N19, K22, s5, t23, t24, f20, t25⟩
def Q_rc22_init (Z : State) (a1 : Addr) (a2 : Addr) (k3 : ClassId) (i4 : Int32) (h0 : Heap) (n0 : Nat) (v : Option Value) (h : Heap) (L : List Loc) : Prop := ∃ (x2_x3_b1 : Addr), ∃ (x2_x3_k1 : ClassId), v = none ∧ Fr n0 L ∧ Keep h0 h [a1] ∧ h0.size ≤ x2_x3_b1 ∧ Exa Z h a1 nString_0 ∧ Fld Z h a1 nString_0 "coder" "B" (.int (0 : Int32)) ∧ Fld Z h a1 nString_0 "value" "[B" (.ref x2_x3_b1) ∧ Arv Z h x2_x3_b1 x2_x3_k1 .byte (1 : Int32) [(.int (nar .byte (i4.toInt8.toInt32)))] (.int (0 : Int32))
set_option maxRecDepth 65536 in
set_option maxHeartbeats 40000000 in
theorem rc22_init (l : Launch) (Z : State) (a0 : Array Value) (hw : ∀ d ∈ tables_1, d.before a0 Z = true) (ws : List Jvm.Cond) (cs : Int32) (hS : SB Z cs) (a1 : Addr) (a2 : Addr) (k3 : ClassId) (i4 : Int32) (h0 : Heap) (n0 : Nat) (O0 : Old Z n0 h0) (g_a1 : n0 ≤ a1) (g_a2 : n0 ≤ a2) (E_a1 : Exa Z h0 a1 nString_0) (F_a1_coder : Fld Z h0 a1 nString_0 "coder" "B" (.int (0 : Int32))) (F_a1_value : Fld Z h0 a1 nString_0 "value" "[B" .null) (V_a2 : Arv Z h0 a2 k3 .char (1 : Int32) [(.int i4)] (.int (0 : Int32))) (hy1 : ¬ (255 : Int32) < i4) :
    Met l my_2 jdk_42_method_3_code 2 none ws ({ frames := 3, cells := 1, slots := 1, locals := 52 } : Room) #[(.ref a1), (.ref a2)] Z h0 (Q_rc22_init Z a1 a2 k3 i4 h0 n0) := by
  refine MetFree.of_bodySF (plainFor_of_name pn_1) hisR ?_
  intro p e s m args below meth c s₁ Bd hml0 hP hK
  obtain ⟨rfl, hZ, hh⟩ := hP
  have hx := Bd.exec
  have hby := Bd.bytes
  have hml : c.maxLocals = 2 := hml0
  have hown : s.vm.findClass nString_0 = some m.cls := findClass_of_methodNamed Bd.named
  have hnm := (name_of_methodNamed Bd.named Bd.method).1
  have X0 : Stand p l e ({ frames := 3, cells := 1, slots := 1, locals := 52 } : Room) s m #[(.ref a1), (.ref a2)] below meth c s₁ [] 0 0 := Stand.of_body Bd
  have e0 : s₁.heap = h0 := by rw [← hh, Bd.state]; rfl
  have N0 := Fr.nil n0
  obtain ⟨f₀, hf₀⟩ : ∃ f, f = entryFrame m #[(.ref a1), (.ref a2)] 2 := ⟨_, rfl⟩
  rw [← hf₀]
  have pre0 : Go p e below s₁ f₀ s₁ (mkF m 0 #[.val (.ref a1), .val (.ref a2)] []) := fun t k => castTop (hf₀.trans (ef_rc22_init m (a1) (a2))) k
  obtain ⟨c1, Ar1, q1, S1, M1, Hh1, G1⟩ := (id V_a2)
  obtain ⟨_, _, ⟨T2, L2, k2, n2⟩, -, X2, ⟨Lc2, hQ2, l2, y2, z2⟩, st2⟩ := X0.specialBack hx (y := my_1) rfl hown (mvT hZ (wq hw 12 rfl)) (mvT hZ (wq hw 13 rfl)) (mvT hZ (wq hw 15 rfl)) (by decide) (backOf (W := 0) (rc23_init l Z a0 hw [] cs hS a1 a2 k3 i4 h0 n0 O0 g_a1 g_a2 E_a1 F_a1_coder F_a1_value V_a2 hy1) hZ (wq hw 15 rfl) (wq hw 7 rfl) (by decide) (by decide)) (g := (mkF m 6 #[.val (.ref a1), .val (.ref a2)] [.null, (.int (1 : Int32)), (.int (0 : Int32)), (.ref a2), (.ref a1)])) rfl (by rw [hml]; rfl) (Steps.refl _) (a := a1) (argsL := [(.ref a2), (.int (0 : Int32)), (.int (1 : Int32)), .null]) (rest := []) (lenOf pd_1 rfl) rfl (by show 2 * 0 + _ ≤ _; exact Nat.le_of_eq rfl) (hb hby d_jdk_42_method_3_6) (fun _ _ => ⟨rfl, e0, (by decide : 0 + 1 ≤ _), (by decide : 0 + 1 ≤ _)⟩)
  dsimp only [Pt.U, Pt.locs, Pt.cells, Pt.slots] at X2 l2 y2 z2 st2 hQ2
  have X2 := own_to X2 l2 y2 z2
  obtain ⟨x2_x3_b1, x2_x3_k1, rfl, N2q, K2, sz2_x3_b1, q2_0, q2_1, q2_2, q2_3⟩ := hQ2
  have N2 := Fr.app N0 N2q
  have g3 : n0 ≤ x2_x3_b1 := Nat.le_trans (Nat.le_of_eq O0.1.symm) (Nat.le_trans O0.2.1 sz2_x3_b1)
  have s4 : h0.size ≤ x2_x3_b1 := Nat.le_trans (Keep.refl h0 [a1]).1 sz2_x3_b1
  have ne5 : a1 ≠ x2_x3_b1 := Nat.ne_of_lt (Nat.lt_of_lt_of_le E_a1.lt sz2_x3_b1)
  have ne6 : a2 ≠ x2_x3_b1 := Nat.ne_of_lt (Nat.lt_of_lt_of_le V_a2.lt sz2_x3_b1)
  have O7 : Old Z n0 T2.heap := Old.keep O0 K2 (allS g_a1 all0)
  have K8 : Keep h0 T2.heap [a1] := (Keep.refl h0 [a1]).trans K2 (allS (Or.inl (List.mem_of_getElem? (i := 0) rfl)) all0)
  obtain ⟨fs, hr, hrun, hended, hW, hsame⟩ := X2.leave (v := none) (fun _ => rfl)
  refine ⟨_, _, pre0 _ ?_, hrun, hended, _, _, rfl, ?_, ⟨_, rfl⟩, hW, hsame.mono (by decide) (by decide)⟩
  · refine XS.aloadN X0.here hx rfl (hb hby d_jdk_42_method_3_0) rfl rfl ?_
    refine XS.aloadN X0.here hx rfl (hb hby d_jdk_42_method_3_1) rfl rfl ?_
    refine XS.iconst X0.here hx rfl (hb hby d_jdk_42_method_3_2) ?_
    refine XS.aloadN X0.here hx rfl (hb hby d_jdk_42_method_3_3) rfl rfl ?_
    refine X0.arraylength hx (by rw [e0]; exact Ar1.1) (State.isArrayOf_alike hZ.alike Ar1.2.1) (g := (mkF m 4 #[.val (.ref a1), .val (.ref a2)] [(.ref a2), (.int (0 : Int32)), (.ref a2), (.ref a1)])) rfl rfl (hb hby d_jdk_42_method_3_4) _ ?_
    rw [len_of S1 M1]
    refine XS.aconstNull X0.here hx rfl (hb hby d_jdk_42_method_3_5) ?_
    refine st2.trans ?_
    exact X2.returnOut hx Bd.returns (hb hby d_jdk_42_method_3_9) hr
  · show Q_rc22_init Z a1 a2 k3 i4 h0 n0 _ T2.heap _
    exact ⟨x2_x3_b1, x2_x3_k1, rfl, N2, K8, s4, q2_0, q2_1, q2_2, q2_3⟩
def Q_rc21_make (Z : State) (i1 : Int32) (i2 : Int32) (i3 : Int32) (h0 : Heap) (n0 : Nat) (v : Option Value) (h : Heap) (L : List Loc) : Prop := ∃ (b1 : Addr), ∃ (x24_x2_x3_b1 : Addr), ∃ (x24_x2_x3_k1 : ClassId), v = some (.ref b1) ∧ Fr n0 L ∧ Keep h0 h [] ∧ h0.size ≤ b1 ∧ h0.size ≤ x24_x2_x3_b1 ∧ Exa Z h b1 nString_0 ∧ Fld Z h b1 nString_0 "coder" "B" (.int (0 : Int32)) ∧ Fld Z h b1 nString_0 "value" "[B" (.ref x24_x2_x3_b1) ∧ Arv Z h x24_x2_x3_b1 x24_x2_x3_k1 .byte (1 : Int32) [(.int (nar .byte (i1.toInt8.toInt32)))] (.int (0 : Int32))
set_option maxRecDepth 65536 in
set_option maxHeartbeats 40000000 in
theorem rc21_make (l : Launch) (Z : State) (a0 : Array Value) (hw : ∀ d ∈ tables_1, d.before a0 Z = true) (ws : List Jvm.Cond) (cs : Int32) (hS : SB Z cs) (i1 : Int32) (i2 : Int32) (i3 : Int32) (h0 : Heap) (n0 : Nat) (O0 : Old Z n0 h0) (hy0 : nar .char i1 = i1) (hy3 : ¬ (255 : Int32) < i1) :
    Met l my_3 method_2_code 4 (some (.object nString_0)) ws ({ frames := 4, cells := 3, slots := 6, locals := 66 } : Room) #[(.int (1 : Int32)), (.int i1), (.int i2), (.int i3)] Z h0 (Q_rc21_make Z i1 i2 i3 h0 n0) := by
  refine MetFree.of_bodySF (plainFor_of_name pn_2) hisR ?_
  intro p e s m args below meth c s₁ Bd hml0 hP hK
  obtain ⟨rfl, hZ, hh⟩ := hP
  have hx := Bd.exec
  have hby := Bd.bytes
  have hml : c.maxLocals = 4 := hml0
  have hown : s.vm.findClass nUnfore_3 = some m.cls := findClass_of_methodNamed Bd.named
  have hnm := (name_of_methodNamed Bd.named Bd.method).1
  have X0 : Stand p l e ({ frames := 4, cells := 3, slots := 6, locals := 66 } : Room) s m #[(.int (1 : Int32)), (.int i1), (.int i2), (.int i3)] below meth c s₁ [] 0 0 := Stand.of_body Bd
  have e0 : s₁.heap = h0 := by rw [← hh, Bd.state]; rfl
  have N0 := Fr.nil n0
  obtain ⟨f₀, hf₀⟩ : ∃ f, f = entryFrame m #[(.int (1 : Int32)), (.int i1), (.int i2), (.int i3)] 4 := ⟨_, rfl⟩
  rw [← hf₀]
  have pre0 : Go p e below s₁ f₀ s₁ (mkF m 0 #[.val (.int (1 : Int32)), .val (.int i1), .val (.int i2), .val (.int i3)] []) := fun t k => castTop (hf₀.trans (ef_rc21_make m ((1 : Int32)) (i1) (i2) (i3))) k
  obtain ⟨T1, h1, X1, e1, E1, A1, D1, -, st1⟩ := newO X0 hx hZ hown (wq hw 5 rfl) (wq hw 6 rfl) (wq hw 7 rfl) e0 (g := (mkF m 20 #[.val (.int (1 : Int32)), .val (.int i1), .val (.int i2), .val (.int i3)] [])) rfl (hb hby d_method_2_20) (by decide) (by decide)
  obtain ⟨b1, gb1⟩ : ∃ z, z = h0.size := ⟨_, rfl⟩
  rw [← gb1] at A1 D1 st1
  have g2 : n0 ≤ b1 := Nat.le_trans (Nat.le_of_eq O0.1.symm) (Nat.le_trans O0.2.1 (Nat.le_of_eq gb1.symm))
  have s3 : h0.size ≤ b1 := Nat.le_trans (Keep.refl h0 []).1 (Nat.le_of_eq gb1.symm)
  have O4 : Old Z n0 h1 := Old.ext O0 E1
  have K5 : Keep h0 h1 [] := (Keep.refl h0 []).ext E1
  have f6 : Fld Z h1 b1 nString_0 "value" "[B" .null := D1 (Or.inr (wq hw 21 rfl)) (ty := (.array .byte)) (by decide)
  have f7 : Fld Z h1 b1 nString_0 "coder" "B" (.int (0 : Int32)) := D1 (Or.inr (wq hw 22 rfl)) (ty := .byte) (by decide)
  obtain ⟨T8, h8, k8, X8, e8, E8, A8, st8⟩ := newP X1 hx hZ (wq hw 8 rfl) e1 (g := (mkF m 25 #[.val (.int (1 : Int32)), .val (.int i1), .val (.int i2), .val (.int i3)] [(.int (1 : Int32)), (.ref b1), (.ref b1)])) rfl (hb hby d_method_2_25) rfl (by decide) (cap := 1) (by decide) (by decide) (by decide) (by decide)
  obtain ⟨b8, gb8⟩ : ∃ z, z = h1.size := ⟨_, rfl⟩
  rw [← gb8] at A8 st8
  have ne9 : b1 ≠ b8 := Nat.ne_of_lt (Nat.lt_of_lt_of_le A1.lt (Nat.le_of_eq gb8.symm))
  have g10 : n0 ≤ b8 := Nat.le_trans (Nat.le_of_eq O4.1.symm) (Nat.le_trans O4.2.1 (Nat.le_of_eq gb8.symm))
  have s11 : h0.size ≤ b8 := Nat.le_trans K5.1 (Nat.le_of_eq gb8.symm)
  have O12 : Old Z n0 h8 := Old.ext O4 E8
  have K13 : Keep h0 h8 [] := K5.ext E8
  have v14 : Arv Z h8 b8 k8 .char (1 : Int32) [(.int (0 : Int32))] (.int (0 : Int32)) := (Arv.new A8 (by decide)).pad (pad_rep [] (.int (0 : Int32)) 1)
  obtain ⟨c15, Ar15, q15, S15, M15, Hh15, G15⟩ := (id v14)
  have hin15 : ¬ ((0 : Int32) < 0 ∨ c15.slots.size ≤ ((0 : Int32)).toNatClampNeg) := inb_of S15 ⟨by decide, by decide⟩
  obtain ⟨T16, h16, X16, e16, W16, st16⟩ := stC X8 hx hZ e8 Ar15 (j := (0 : Int32)) hin15 (g := (mkF m 30 #[.val (.int (1 : Int32)), .val (.int i1), .val (.int i2), .val (.int i3)] [(.int i1), (.int (0 : Int32)), (.ref b8), (.ref b8), (.ref b1), (.ref b1)])) rfl rfl (hb hby d_method_2_30)
  have v17 : Arv Z h16 b8 k8 .char (1 : Int32) [(.int (nar .char i1))] (.int (0 : Int32)) := Arv.set Ar15 q15 S15 M15 Hh15 G15 (fits_nar_char _) W16 0 rfl (Nat.le_of_ble_eq_true rfl)
  have v18 : Arv Z h16 b8 k8 .char (1 : Int32) [(.int i1)] (.int (0 : Int32)) := by rw [hy0] at v17; exact v17
  have N16 := Fr.snoc X16 N0 g10
  have O19 : Old Z n0 h16 := Old.wr O12 W16 g10
  have K20 : Keep h0 h16 [] := K13.wr W16 (Or.inr s11)
  have t21 : Exa Z h16 b1 nString_0 := ((A1.ext E8).wr W16)
  have t22 : Fld Z h16 b1 nString_0 "coder" "B" (.int (0 : Int32)) := ((f7.ext E8).other W16 (Or.inl ne9))
  have t23 : Fld Z h16 b1 nString_0 "value" "[B" .null := ((f6.ext E8).other W16 (Or.inl ne9))
  obtain ⟨_, _, ⟨T24, L24, k24, n24⟩, -, X24, ⟨Lc24, hQ24, l24, y24, z24⟩, st24⟩ := X16.specialBack hx (y := my_2) rfl hown (mvT hZ (wq hw 9 rfl)) (mvT hZ (wq hw 10 rfl)) (mvT hZ (wq hw 11 rfl)) (by decide) (backOf (W := 1) (rc22_init l Z a0 hw [] cs hS b1 b8 k8 i1 h16 n0 O19 g2 g10 t21 t22 t23 v18 hy3) hZ (wq hw 11 rfl) (wq hw 7 rfl) (by decide) (by decide)) (g := (mkF m 31 #[.val (.int (1 : Int32)), .val (.int i1), .val (.int i2), .val (.int i3)] [(.ref b8), (.ref b1), (.ref b1)])) rfl (by rw [hml]; rfl) (Steps.refl _) (a := b1) (argsL := [(.ref b8)]) (rest := [(.ref b1)]) (lenOf pd_2 rfl) rfl (by show 2 * 0 + _ ≤ _; exact Nat.le_of_eq rfl) (hb hby d_method_2_31) (fun _ _ => ⟨rfl, e16, (by decide : 2 + 1 ≤ _), (by decide : 5 + 1 ≤ _)⟩)
  dsimp only [Pt.U, Pt.locs, Pt.cells, Pt.slots] at X24 l24 y24 z24 st24 hQ24
  have X24 := own_to X24 l24 y24 z24
  obtain ⟨x24_x2_x3_b1, x24_x2_x3_k1, rfl, N24q, K24, sz24_x2_x3_b1, q24_0, q24_1, q24_2, q24_3⟩ := hQ24
  have N24 := Fr.app N16 N24q
  have g25 : n0 ≤ x24_x2_x3_b1 := Nat.le_trans (Nat.le_of_eq O19.1.symm) (Nat.le_trans O19.2.1 sz24_x2_x3_b1)
  have s26 : h0.size ≤ x24_x2_x3_b1 := Nat.le_trans K20.1 sz24_x2_x3_b1
  have ne27 : b1 ≠ x24_x2_x3_b1 := Nat.ne_of_lt (Nat.lt_of_lt_of_le t21.lt sz24_x2_x3_b1)
  have ne28 : b8 ≠ x24_x2_x3_b1 := Nat.ne_of_lt (Nat.lt_of_lt_of_le v18.lt sz24_x2_x3_b1)
  have O29 : Old Z n0 T24.heap := Old.keep O19 K24 (allS g2 all0)
  have K30 : Keep h0 T24.heap [] := K20.trans K24 (allS (Or.inr s3) all0)
  obtain ⟨fs, hr, hrun, hended, hW, hsame⟩ := X24.leave (v := (some (.ref b1))) (fun h => by rw [Bd.returns] at h; cases h)
  refine ⟨_, _, pre0 _ ?_, hrun, hended, _, _, rfl, ?_, ⟨_, rfl⟩, hW, hsame.mono (by decide) (by decide)⟩
  · refine XS.iloadN X0.here hx rfl (hb hby d_method_2_0) rfl ?_
    refine XS.ifYes X0.here hx rfl (pc0 := 1) (pc' := 15) rfl (hb hby d_method_2_1) rfl ((if0 _ _).trans (feq (by decide : ¬ ((1 : Int32) = (0 : Int32)))).2) (by decide) (by decide) ?_
    refine XS.iloadN X0.here hx rfl (hb hby d_method_2_15) rfl ?_
    refine XS.iconst X0.here hx rfl (hb hby d_method_2_16) ?_
    refine XS.icmpNo X0.here hx rfl (hb hby d_method_2_17) rfl (teq (by decide : (1 : Int32) = (1 : Int32))).2 ?_
    refine st1 _ ?_
    refine XS.dup X1.here hx rfl (hb hby d_method_2_23) rfl rfl ?_
    refine XS.iconst X1.here hx rfl (hb hby d_method_2_24) ?_
    refine st8 _ ?_
    refine XS.dup X8.here hx rfl (hb hby d_method_2_27) rfl rfl ?_
    refine XS.iconst X8.here hx rfl (hb hby d_method_2_28) ?_
    refine XS.iloadN X8.here hx rfl (hb hby d_method_2_29) rfl ?_
    refine st16 _ ?_
    refine st24.trans ?_
    exact retOut X24 hx Bd.returns rfl (Or.inr (Or.inr (Or.inr (Or.inr ⟨rfl, rfl, rfl⟩)))) (hb hby d_method_2_34) hr
  · show Q_rc21_make Z i1 i2 i3 h0 n0 _ T24.heap _
    exact ⟨b1, x24_x2_x3_b1, x24_x2_x3_k1, rfl, N24, K30, s3, s26, q24_0, q24_1, q24_2, q24_3⟩
def Q_rc28_isEmpty (Z : State) (a1 : Addr) (a2 : Addr) (k3 : ClassId) (i4 : Int32) (h0 : Heap) (n0 : Nat) (v : Option Value) (h : Heap) (L : List Loc) : Prop := v = some (.int (0 : Int32)) ∧ Fr n0 L ∧ h = h0
set_option maxRecDepth 65536 in
set_option maxHeartbeats 40000000 in
theorem rc28_isEmpty (l : Launch) (Z : State) (a0 : Array Value) (hw : ∀ d ∈ tables_1, d.before a0 Z = true) (ws : List Jvm.Cond) (cs : Int32) (hS : SB Z cs) (a1 : Addr) (a2 : Addr) (k3 : ClassId) (i4 : Int32) (h0 : Heap) (n0 : Nat) (O0 : Old Z n0 h0) (g_a1 : n0 ≤ a1) (g_a2 : n0 ≤ a2) (F_a1_value : Fld Z h0 a1 nString_0 "value" "[B" (.ref a2)) (V_a2 : Arv Z h0 a2 k3 .byte (1 : Int32) [(.int i4)] (.int (0 : Int32))) :
    Met l my_4 jdk_42_method_55_code 1 (some .boolean) ws ({ frames := 0, cells := 0, slots := 0, locals := 0 } : Room) #[(.ref a1)] Z h0 (Q_rc28_isEmpty Z a1 a2 k3 i4 h0 n0) := by
  refine MetFree.of_bodySF (plainFor_of_name pn_1) hisR ?_
  intro p e s m args below meth c s₁ Bd hml0 hP hK
  obtain ⟨rfl, hZ, hh⟩ := hP
  have hx := Bd.exec
  have hby := Bd.bytes
  have hml : c.maxLocals = 1 := hml0
  have hown : s.vm.findClass nString_0 = some m.cls := findClass_of_methodNamed Bd.named
  have hnm := (name_of_methodNamed Bd.named Bd.method).1
  have X0 : Stand p l e ({ frames := 0, cells := 0, slots := 0, locals := 0 } : Room) s m #[(.ref a1)] below meth c s₁ [] 0 0 := Stand.of_body Bd
  have e0 : s₁.heap = h0 := by rw [← hh, Bd.state]; rfl
  have N0 := Fr.nil n0
  obtain ⟨f₀, hf₀⟩ : ∃ f, f = entryFrame m #[(.ref a1)] 1 := ⟨_, rfl⟩
  rw [← hf₀]
  have pre0 : Go p e below s₁ f₀ s₁ (mkF m 0 #[.val (.ref a1)] []) := fun t k => castTop (hf₀.trans (ef_rc28_isEmpty m (a1))) k
  obtain ⟨T1, X1, e1, st1⟩ := getF X0 hx hZ hown (host := "") (Or.inl (wq hw 25 rfl)) Via.refl e0 F_a1_value (g := (mkF m 1 #[.val (.ref a1)] [(.ref a1)])) rfl rfl (hb hby d_jdk_42_method_55_1)
  obtain ⟨c2, Ar2, q2, S2, M2, Hh2, G2⟩ := (id V_a2)
  obtain ⟨fs, hr, hrun, hended, hW, hsame⟩ := X1.leave (v := (some (.int (0 : Int32)))) (fun h => by rw [Bd.returns] at h; cases h)
  refine ⟨_, _, pre0 _ ?_, hrun, hended, _, _, rfl, ?_, ⟨_, rfl⟩, hW, hsame.mono (by decide) (by decide)⟩
  · refine XS.aloadN X0.here hx rfl (hb hby d_jdk_42_method_55_0) rfl rfl ?_
    refine st1 _ ?_
    refine X1.arraylength hx (by rw [e1]; exact Ar2.1) (State.isArrayOf_alike hZ.alike Ar2.2.1) (g := (mkF m 4 #[.val (.ref a1)] [(.ref a2)])) rfl rfl (hb hby d_jdk_42_method_55_4) _ ?_
    rw [len_of S2 M2]
    refine XS.ifYes X1.here hx rfl (pc0 := 5) (pc' := 12) rfl (hb hby d_jdk_42_method_55_5) rfl ((if0 _ _).trans (feq (by decide : ¬ ((1 : Int32) = (0 : Int32)))).2) (by decide) (by decide) ?_
    refine XS.iconst X1.here hx rfl (hb hby d_jdk_42_method_55_12) ?_
    exact retN X1 hx (t := .boolean) Bd.returns (by simp) (hb hby d_jdk_42_method_55_13) hr
  · show Q_rc28_isEmpty Z a1 a2 k3 i4 h0 n0 _ T1.heap _
    rw [e1]
    exact ⟨rfl, N0, rfl⟩
def Q_rc30_equals (Z : State) (a1 : Addr) (a2 : Addr) (k3 : ClassId) (i4 : Int32) (k5 : ClassId) (h0 : Heap) (n0 : Nat) (v : Option Value) (h : Heap) (L : List Loc) : Prop := v = some (.int (1 : Int32)) ∧ Fr n0 L ∧ h = h0
set_option maxRecDepth 65536 in
set_option maxHeartbeats 40000000 in
theorem rc30_equals (l : Launch) (Z : State) (a0 : Array Value) (hw : ∀ d ∈ tables_1, d.before a0 Z = true) (ws : List Jvm.Cond) (cs : Int32) (hS : SB Z cs) (a1 : Addr) (a2 : Addr) (k3 : ClassId) (i4 : Int32) (k5 : ClassId) (h0 : Heap) (n0 : Nat) (O0 : Old Z n0 h0) (g_a1 : n0 ≤ a1) (V_a1 : Arv Z h0 a1 k3 .byte (1 : Int32) [(.int i4)] (.int (0 : Int32))) (V_a2 : Arv Z h0 a2 k5 .byte (1 : Int32) [(.int (48 : Int32))] (.int (0 : Int32))) (hy0 : i4 = (48 : Int32)) :
    Met l my_14 jdk_43_method_13_code 3 (some .boolean) ws ({ frames := 0, cells := 0, slots := 0, locals := 0 } : Room) #[(.ref a1), (.ref a2)] Z h0 (Q_rc30_equals Z a1 a2 k3 i4 k5 h0 n0) := by
  refine MetFree.of_bodySF (plainFor_of_name pn_4) hisR ?_
  intro p e s m args below meth c s₁ Bd hml0 hP hK
  obtain ⟨rfl, hZ, hh⟩ := hP
  have hx := Bd.exec
  have hby := Bd.bytes
  have hml : c.maxLocals = 3 := hml0
  have hown : s.vm.findClass "java/lang/StringLatin1" = some m.cls := findClass_of_methodNamed Bd.named
  have hnm := (name_of_methodNamed Bd.named Bd.method).1
  have X0 : Stand p l e ({ frames := 0, cells := 0, slots := 0, locals := 0 } : Room) s m #[(.ref a1), (.ref a2)] below meth c s₁ [] 0 0 := Stand.of_body Bd
  have e0 : s₁.heap = h0 := by rw [← hh, Bd.state]; rfl
  have N0 := Fr.nil n0
  obtain ⟨f₀, hf₀⟩ : ∃ f, f = entryFrame m #[(.ref a1), (.ref a2)] 3 := ⟨_, rfl⟩
  rw [← hf₀]
  have pre0 : Go p e below s₁ f₀ s₁ (mkF m 0 #[.val (.ref a1), .val (.ref a2), .unset] []) := fun t k => castTop (hf₀.trans (ef_rc30_equals m (a1) (a2))) k
  obtain ⟨c1, Ar1, q1, S1, M1, Hh1, G1⟩ := (id V_a1)
  obtain ⟨c2, Ar2, q2, S2, M2, Hh2, G2⟩ := (id V_a2)
  obtain ⟨c3, Ar3, q3, S3, M3, Hh3, G3⟩ := (id V_a1)
  obtain ⟨c4, Ar4, q4, S4, M4, Hh4, G4⟩ := (id V_a1)
  have hin4 : ¬ ((0 : Int32) < 0 ∨ c4.slots.size ≤ ((0 : Int32)).toNatClampNeg) := inb_of S4 ⟨by decide, by decide⟩
  have hat4 : c4.slots[((0 : Int32)).toNatClampNeg]? = some (.int i4) := Hh4.at hin4 rfl
  obtain ⟨c5, Ar5, q5, S5, M5, Hh5, G5⟩ := (id V_a2)
  have hin5 : ¬ ((0 : Int32) < 0 ∨ c5.slots.size ≤ ((0 : Int32)).toNatClampNeg) := inb_of S5 ⟨by decide, by decide⟩
  have hat5 : c5.slots[((0 : Int32)).toNatClampNeg]? = some (.int (48 : Int32)) := Hh5.at hin5 rfl
  obtain ⟨c6, Ar6, q6, S6, M6, Hh6, G6⟩ := (id V_a1)
  obtain ⟨fs, hr, hrun, hended, hW, hsame⟩ := X0.leave (v := (some (.int (1 : Int32)))) (fun h => by rw [Bd.returns] at h; cases h)
  refine ⟨_, _, pre0 _ ?_, hrun, hended, _, _, rfl, ?_, ⟨_, rfl⟩, hW, hsame.mono (by decide) (by decide)⟩
  · refine XS.aloadN X0.here hx rfl (hb hby d_jdk_43_method_13_0) rfl rfl ?_
    refine X0.arraylength hx (by rw [e0]; exact Ar1.1) (State.isArrayOf_alike hZ.alike Ar1.2.1) (g := (mkF m 1 #[.val (.ref a1), .val (.ref a2), .unset] [(.ref a1)])) rfl rfl (hb hby d_jdk_43_method_13_1) _ ?_
    rw [len_of S1 M1]
    refine XS.aloadN X0.here hx rfl (hb hby d_jdk_43_method_13_2) rfl rfl ?_
    refine X0.arraylength hx (by rw [e0]; exact Ar2.1) (State.isArrayOf_alike hZ.alike Ar2.2.1) (g := (mkF m 3 #[.val (.ref a1), .val (.ref a2), .unset] [(.ref a2), (.int (1 : Int32))])) rfl rfl (hb hby d_jdk_43_method_13_3) _ ?_
    rw [len_of S2 M2]
    refine XS.icmpNo X0.here hx rfl (hb hby d_jdk_43_method_13_4) rfl (teq (by decide : (1 : Int32) = (1 : Int32))).2 ?_
    refine XS.iconst X0.here hx rfl (hb hby d_jdk_43_method_13_7) ?_
    refine XS.istoreN X0.here hx rfl (hb hby d_jdk_43_method_13_8) rfl (l' := #[.val (.ref a1), .val (.ref a2), .val (.int (0 : Int32))]) rfl ?_
    refine XS.iloadN X0.here hx rfl (hb hby d_jdk_43_method_13_9) rfl ?_
    refine XS.aloadN X0.here hx rfl (hb hby d_jdk_43_method_13_10) rfl rfl ?_
    refine X0.arraylength hx (by rw [e0]; exact Ar3.1) (State.isArrayOf_alike hZ.alike Ar3.2.1) (g := (mkF m 11 #[.val (.ref a1), .val (.ref a2), .val (.int (0 : Int32))] [(.ref a1), (.int (0 : Int32))])) rfl rfl (hb hby d_jdk_43_method_13_11) _ ?_
    rw [len_of S3 M3]
    refine XS.icmpNo X0.here hx rfl (hb hby d_jdk_43_method_13_12) rfl (tlt (by decide : (0 : Int32) < (1 : Int32))).2.1 ?_
    refine XS.aloadN X0.here hx rfl (hb hby d_jdk_43_method_13_15) rfl rfl ?_
    refine XS.iloadN X0.here hx rfl (hb hby d_jdk_43_method_13_16) rfl ?_
    refine X0.baloadBytes hx (j := (0 : Int32)) (v := (.int i4)) (by rw [e0]; exact Ar4.1) (State.isArrayOf_alike hZ.alike Ar4.2.1) Ar4.2.2 hin4 hat4 (g := (mkF m 17 #[.val (.ref a1), .val (.ref a2), .val (.int (0 : Int32))] [(.int (0 : Int32)), (.ref a1)])) rfl rfl (hb hby d_jdk_43_method_13_17) _ ?_
    refine XS.aloadN X0.here hx rfl (hb hby d_jdk_43_method_13_18) rfl rfl ?_
    refine XS.iloadN X0.here hx rfl (hb hby d_jdk_43_method_13_19) rfl ?_
    refine X0.baloadBytes hx (j := (0 : Int32)) (v := (.int (48 : Int32))) (by rw [e0]; exact Ar5.1) (State.isArrayOf_alike hZ.alike Ar5.2.1) Ar5.2.2 hin5 hat5 (g := (mkF m 20 #[.val (.ref a1), .val (.ref a2), .val (.int (0 : Int32))] [(.int (0 : Int32)), (.ref a2), (.int i4)])) rfl rfl (hb hby d_jdk_43_method_13_20) _ ?_
    refine XS.icmpYes X0.here hx rfl (pc0 := 21) (pc' := 26) rfl (hb hby d_jdk_43_method_13_21) rfl (teq hy0).1 (by decide) (by decide) ?_
    refine XS.iinc X0.here hx rfl (hb hby d_jdk_43_method_13_26) rfl (l' := #[.val (.ref a1), .val (.ref a2), .val (.int (1 : Int32))]) rfl ?_
    refine XS.goto X0.here hx rfl (pc0 := 29) (pc' := 9) rfl (hb hby d_jdk_43_method_13_29) (by decide) (by decide) ?_
    refine XS.iloadN X0.here hx rfl (hb hby d_jdk_43_method_13_9) rfl ?_
    refine XS.aloadN X0.here hx rfl (hb hby d_jdk_43_method_13_10) rfl rfl ?_
    refine X0.arraylength hx (by rw [e0]; exact Ar6.1) (State.isArrayOf_alike hZ.alike Ar6.2.1) (g := (mkF m 11 #[.val (.ref a1), .val (.ref a2), .val (.int (1 : Int32))] [(.ref a1), (.int (1 : Int32))])) rfl rfl (hb hby d_jdk_43_method_13_11) _ ?_
    rw [len_of S6 M6]
    refine XS.icmpYes X0.here hx rfl (pc0 := 12) (pc' := 32) rfl (hb hby d_jdk_43_method_13_12) rfl (flt (by decide : ¬ ((1 : Int32) < (1 : Int32)))).2.1 (by decide) (by decide) ?_
    refine XS.iconst X0.here hx rfl (hb hby d_jdk_43_method_13_32) ?_
    exact retN X0 hx (t := .boolean) Bd.returns (by simp) (hb hby d_jdk_43_method_13_33) hr
  · show Q_rc30_equals Z a1 a2 k3 i4 k5 h0 n0 _ s₁.heap _
    rw [e0]
    exact ⟨rfl, N0, rfl⟩
def Q_rc29_equals (Z : State) (a1 : Addr) (a2 : Addr) (a3 : Addr) (a4 : Addr) (k5 : ClassId) (i6 : Int32) (k7 : ClassId) (h0 : Heap) (n0 : Nat) (v : Option Value) (h : Heap) (L : List Loc) : Prop := v = some (.int (1 : Int32)) ∧ Fr n0 L ∧ h = h0
set_option maxRecDepth 65536 in
set_option maxHeartbeats 40000000 in
theorem rc29_equals (l : Launch) (Z : State) (a0 : Array Value) (hw : ∀ d ∈ tables_1, d.before a0 Z = true) (ws : List Jvm.Cond) (cs : Int32) (hS : SB Z cs) (a1 : Addr) (a2 : Addr) (a3 : Addr) (a4 : Addr) (k5 : ClassId) (i6 : Int32) (k7 : ClassId) (h0 : Heap) (n0 : Nat) (O0 : Old Z n0 h0) (g_a1 : n0 ≤ a1) (g_a3 : n0 ≤ a3) (F_a1_coder : Fld Z h0 a1 nString_0 "coder" "B" (.int (0 : Int32))) (F_a1_value : Fld Z h0 a1 nString_0 "value" "[B" (.ref a3)) (E_a2 : Exa Z h0 a2 nString_0) (F_a2_coder : Fld Z h0 a2 nString_0 "coder" "B" (.int (0 : Int32))) (F_a2_value : Fld Z h0 a2 nString_0 "value" "[B" (.ref a4)) (V_a3 : Arv Z h0 a3 k5 .byte (1 : Int32) [(.int i6)] (.int (0 : Int32))) (V_a4 : Arv Z h0 a4 k7 .byte (1 : Int32) [(.int (48 : Int32))] (.int (0 : Int32))) (hy0 : i6 = (48 : Int32)) (hy1 : ¬ a1 = a2) :
    Met l my_13 jdk_42_method_66_code 3 (some .boolean) ws ({ frames := 1, cells := 0, slots := 0, locals := 14 } : Room) #[(.ref a1), (.ref a2)] Z h0 (Q_rc29_equals Z a1 a2 a3 a4 k5 i6 k7 h0 n0) := by
  refine MetFree.of_bodySF (plainFor_of_name pn_1) hisR ?_
  intro p e s m args below meth c s₁ Bd hml0 hP hK
  obtain ⟨rfl, hZ, hh⟩ := hP
  have hx := Bd.exec
  have hby := Bd.bytes
  have hml : c.maxLocals = 3 := hml0
  have hown : s.vm.findClass nString_0 = some m.cls := findClass_of_methodNamed Bd.named
  have hnm := (name_of_methodNamed Bd.named Bd.method).1
  have X0 : Stand p l e ({ frames := 1, cells := 0, slots := 0, locals := 14 } : Room) s m #[(.ref a1), (.ref a2)] below meth c s₁ [] 0 0 := Stand.of_body Bd
  have e0 : s₁.heap = h0 := by rw [← hh, Bd.state]; rfl
  have N0 := Fr.nil n0
  obtain ⟨f₀, hf₀⟩ : ∃ f, f = entryFrame m #[(.ref a1), (.ref a2)] 3 := ⟨_, rfl⟩
  rw [← hf₀]
  have pre0 : Go p e below s₁ f₀ s₁ (mkF m 0 #[.val (.ref a1), .val (.ref a2), .unset] []) := fun t k => castTop (hf₀.trans (ef_rc29_equals m (a1) (a2))) k
  obtain ⟨T1, X1, e1, st1⟩ := instY X0 hx hZ hown (wq hw 53 rfl) e0 (Ins.self E_a2) (g := (mkF m 8 #[.val (.ref a1), .val (.ref a2), .unset] [(.ref a2)])) rfl rfl (hb hby d_jdk_42_method_66_8)
  obtain ⟨T2, X2, e2, st2⟩ := castY X1 hx hZ hown (wq hw 53 rfl) e1 (Ins.self E_a2) (g := (mkF m 15 #[.val (.ref a1), .val (.ref a2), .unset] [(.ref a2)])) rfl rfl (hb hby d_jdk_42_method_66_15)
  obtain ⟨T3, X3, e3, st3⟩ := getS2 X2 hx hZ hown (host := "") (Or.inl (wq hw 36 rfl)) Via.refl e2 (hS.1.ext O0.2) (g := (mkF m 19 #[.val (.ref a1), .val (.ref a2), .val (.ref a2)] [])) rfl (hb hby d_jdk_42_method_66_19)
  obtain ⟨T4, X4, e4, st4⟩ := getF X3 hx hZ hown (host := "") (Or.inl (wq hw 26 rfl)) Via.refl e3 F_a1_coder (g := (mkF m 26 #[.val (.ref a1), .val (.ref a2), .val (.ref a2)] [(.ref a1)])) rfl rfl (hb hby d_jdk_42_method_66_26)
  obtain ⟨T5, X5, e5, st5⟩ := getF X4 hx hZ hown (host := "") (Or.inl (wq hw 26 rfl)) Via.refl e4 F_a2_coder (g := (mkF m 30 #[.val (.ref a1), .val (.ref a2), .val (.ref a2)] [(.ref a2), (.int (0 : Int32))])) rfl rfl (hb hby d_jdk_42_method_66_30)
  obtain ⟨T6, X6, e6, st6⟩ := getF X5 hx hZ hown (host := "") (Or.inl (wq hw 25 rfl)) Via.refl e5 F_a1_value (g := (mkF m 37 #[.val (.ref a1), .val (.ref a2), .val (.ref a2)] [(.ref a1)])) rfl rfl (hb hby d_jdk_42_method_66_37)
  obtain ⟨T7, X7, e7, st7⟩ := getF X6 hx hZ hown (host := "") (Or.inl (wq hw 25 rfl)) Via.refl e6 F_a2_value (g := (mkF m 41 #[.val (.ref a1), .val (.ref a2), .val (.ref a2)] [(.ref a2), (.ref a3)])) rfl rfl (hb hby d_jdk_42_method_66_41)
  obtain ⟨_, _, ⟨T8, L8, k8, n8⟩, -, X8, ⟨Lc8, hQ8, l8, y8, z8⟩, st8⟩ := Jvm.LawKit.callS X7 hx (y := my_14) hown (mvT hZ (wq hw 54 rfl)) (mvT hZ (wq hw 55 rfl)) (mvT hZ (wq hw 56 rfl)) (mvT hZ (wq hw 57 rfl)) (by decide) (backOf (W := 0) (rc30_equals l Z a0 hw [] cs hS a3 a4 k5 i6 k7 h0 n0 O0 g_a3 V_a3 V_a4 hy0) hZ (wq hw 57 rfl) (wq hw 56 rfl) (by decide) (by decide)) (g := (mkF m 44 #[.val (.ref a1), .val (.ref a2), .val (.ref a2)] [(.ref a4), (.ref a3)])) rfl (by rw [hml]; rfl) (argsL := [(.ref a3), (.ref a4)]) (rest := []) (lenOf pd_13 rfl) rfl (by show 2 * 0 + _ ≤ _; exact Nat.le_of_eq rfl) (hb hby d_jdk_42_method_66_44) (fun _ _ => ⟨rfl, e7, (by decide : 0 + 0 ≤ _), (by decide : 0 + 0 ≤ _)⟩)
  dsimp only [Pt.U, Pt.locs, Pt.cells, Pt.slots] at X8 l8 y8 z8 st8 hQ8
  have X8 := own_to X8 l8 y8 z8
  obtain ⟨rfl, N8q, e8⟩ := hQ8
  have N8 := Fr.app N0 N8q
  obtain ⟨fs, hr, hrun, hended, hW, hsame⟩ := X8.leave (v := (some (.int (1 : Int32)))) (fun h => by rw [Bd.returns] at h; cases h)
  refine ⟨_, _, pre0 _ ?_, hrun, hended, _, _, rfl, ?_, ⟨_, rfl⟩, hW, hsame.mono (by decide) (by decide)⟩
  · refine XS.aloadN X0.here hx rfl (hb hby d_jdk_42_method_66_0) rfl rfl ?_
    refine XS.aloadN X0.here hx rfl (hb hby d_jdk_42_method_66_1) rfl rfl ?_
    refine Jvm.RoadKit.acmp (g := (mkF m 2 #[.val (.ref a1), .val (.ref a2), .unset] [(.ref a2), (.ref a1)])) X0 hx rfl rfl rfl (pc0 := 2) (pc' := 7) (same := false) rfl (hb hby d_jdk_42_method_66_2) rfl (decide_eq_false fun q => hy1 (Value.ref.inj q)) (by decide) (by decide) ?_
    refine XS.aloadN X0.here hx rfl (hb hby d_jdk_42_method_66_7) rfl rfl ?_
    refine st1 _ ?_
    refine XS.ifNo X1.here hx rfl (hb hby d_jdk_42_method_66_11) rfl ((if0 _ _).trans (feq (by decide : ¬ ((1 : Int32) = (0 : Int32)))).1) ?_
    refine XS.aloadN X1.here hx rfl (hb hby d_jdk_42_method_66_14) rfl rfl ?_
    refine st2 _ ?_
    refine XS.astoreN X2.here hx rfl (hb hby d_jdk_42_method_66_18) rfl rfl (l' := #[.val (.ref a1), .val (.ref a2), .val (.ref a2)]) rfl ?_
    refine st3 _ ?_
    refine XS.ifNo X3.here hx rfl (hb hby d_jdk_42_method_66_22) rfl ((if0 _ _).trans (feq hS.2.1).1) ?_
    refine XS.aloadN X3.here hx rfl (hb hby d_jdk_42_method_66_25) rfl rfl ?_
    refine st4 _ ?_
    refine XS.aloadN X4.here hx rfl (hb hby d_jdk_42_method_66_29) rfl rfl ?_
    refine st5 _ ?_
    refine XS.icmpNo X5.here hx rfl (hb hby d_jdk_42_method_66_33) rfl (teq (by decide : (0 : Int32) = (0 : Int32))).2 ?_
    refine XS.aloadN X5.here hx rfl (hb hby d_jdk_42_method_66_36) rfl rfl ?_
    refine st6 _ ?_
    refine XS.aloadN X6.here hx rfl (hb hby d_jdk_42_method_66_40) rfl rfl ?_
    refine st7 _ ?_
    refine st8 _ ?_
    refine XS.ifNo X8.here hx rfl (hb hby d_jdk_42_method_66_47) rfl ((if0 _ _).trans (feq (by decide : ¬ ((1 : Int32) = (0 : Int32)))).1) ?_
    refine XS.iconst X8.here hx rfl (hb hby d_jdk_42_method_66_50) ?_
    refine XS.goto X8.here hx rfl (pc0 := 51) (pc' := 55) rfl (hb hby d_jdk_42_method_66_51) (by decide) (by decide) ?_
    exact retN X8 hx (t := .boolean) Bd.returns (by simp) (hb hby d_jdk_42_method_66_55) hr
  · show Q_rc29_equals Z a1 a2 a3 a4 k5 i6 k7 h0 n0 _ T8.heap _
    rw [e8]
    exact ⟨rfl, N8, rfl⟩
def Q_rc27_traceAsked (Z : State) (a1 : Addr) (a2 : Addr) (k3 : ClassId) (i4 : Int32) (h0 : Heap) (n0 : Nat) (v : Option Value) (h : Heap) (L : List Loc) : Prop := v = some (.int (0 : Int32)) ∧ Fr n0 L ∧ Keep h0 h []
set_option maxRecDepth 65536 in
set_option maxHeartbeats 40000000 in
theorem rc27_traceAsked (l : Launch) (Z : State) (a0 : Array Value) (hw : ∀ d ∈ tables_1, d.before a0 Z = true) (ws : List Jvm.Cond) (cs : Int32) (hS : SB Z cs) (a1 : Addr) (a2 : Addr) (k3 : ClassId) (i4 : Int32) (h0 : Heap) (n0 : Nat) (O0 : Old Z n0 h0) (g_a1 : n0 ≤ a1) (g_a2 : n0 ≤ a2) (E_a1 : Exa Z h0 a1 nString_0) (F_a1_coder : Fld Z h0 a1 nString_0 "coder" "B" (.int (0 : Int32))) (F_a1_value : Fld Z h0 a1 nString_0 "value" "[B" (.ref a2)) (V_a2 : Arv Z h0 a2 k3 .byte (1 : Int32) [(.int i4)] (.int (0 : Int32))) (hy0 : i4 = (48 : Int32)) :
    MetH l my_0 prog_17_method_2_code 1 (some .boolean) ws ({ frames := 2, cells := 2, slots := 8, locals := 28 } : Room) #[(.ref a1)] Z h0 [a1] (Q_rc27_traceAsked Z a1 a2 k3 i4 h0 n0) := by
  refine MetFree.of_bodySF (plainFor_of_name pn_0) hisR ?_
  intro p e s m args below meth c s₁ Bd hml0 hP hK
  obtain ⟨rfl, hZ, hh, hCH⟩ := hP
  have hx := Bd.exec
  have hby := Bd.bytes
  have hml : c.maxLocals = 1 := hml0
  have hown : s.vm.findClass nUnfore_2 = some m.cls := findClass_of_methodNamed Bd.named
  have hnm := (name_of_methodNamed Bd.named Bd.method).1
  have X0 : Stand p l e ({ frames := 2, cells := 2, slots := 8, locals := 28 } : Room) (s.setVm s.vm) m #[(.ref a1)] below meth c s₁ [] 0 0 := Stand.of_body Bd
  have e0 : s₁.heap = h0 := by rw [← hh, Bd.state]; rfl
  have N0 := Fr.nil n0
  obtain ⟨f₀, hf₀⟩ : ∃ f, f = entryFrame m #[(.ref a1)] 1 := ⟨_, rfl⟩
  rw [← hf₀]
  have pre0 : Go p e below s₁ f₀ s₁ (mkF m 0 #[.val (.ref a1)] []) := fun t k => castTop (hf₀.trans (ef_rc27_traceAsked m (a1))) k
  have hZ0 : Z.Warmed39 (s.setVm s.vm).vm := hZ
  have hown0 : (s.setVm s.vm).vm.findClass nUnfore_2 = some m.cls := hown
  have hS0 : s.Since s.vm s.heap.size := (State.WarmedH.refl s).since _
  have hk0 : s.heap.size ≤ h0.size := by rw [hh]; exact Nat.le_refl _
  obtain ⟨cq1, kq1, q1a, q1b, q1c⟩ := isOf hZ0 e0 (E_a1)
  obtain ⟨_, _, ⟨T1, L1, k1, n1⟩, -, X1, ⟨Lc1, hQ1, l1, y1, z1⟩, st1⟩ := X0.virtualBack hx (y := my_4) (z := my_4) hown0 (mvT hZ0 (wq hw 31 rfl)) (mvT hZ0 (wq hw 32 rfl)) (notFace_of_selects (args := #[]) (mvT hZ0 (wq hw 34 rfl))) (mvT hZ0 (wq hw 34 rfl)) (mvT hZ0 (wq hw 33 rfl)) (by decide) (backOf (W := 0) (rc28_isEmpty l Z a0 hw [] cs hS a1 a2 k3 i4 h0 n0 O0 g_a1 g_a2 F_a1_value V_a2) hZ0 (wq hw 35 rfl) (wq hw 7 rfl) (by decide) (by decide)) q1a q1c (g := (mkF m 5 #[.val (.ref a1)] [(.ref a1)])) rfl (by rw [hml]; rfl) (Steps.refl _) (argsL := []) (rest := []) (lenOf pd_4 rfl) rfl (by show 2 * 0 + _ ≤ _; exact Nat.le_of_eq rfl) (hb hby d_prog_17_method_2_5) (fun _ _ => ⟨rfl, e0, (by decide : 0 + 0 ≤ _), (by decide : 0 + 0 ≤ _)⟩)
  dsimp only [Pt.U, Pt.locs, Pt.cells, Pt.slots] at X1 l1 y1 z1 st1 hQ1
  have X1 := own_to X1 l1 y1 z1
  obtain ⟨rfl, N1q, e1⟩ := hQ1
  have N1 := Fr.app N0 N1q
  obtain ⟨sa2, T2, h2, k2, sb2, kc2, X2, e2, E2, hS2, hk2, hZ2, hown2, A2, Fc2, Fv2, Va2, la2, lb2, Cr2, Lt2, hne2, st2⟩ := ldcCH X1 hx hZ0 hown0 (wq hw 47 rfl) (own_wS hw) e1 hS0 hk0 (own_EL hw) (List.mem_of_getElem? (i := 0) rfl) hCH.1 (vs := [(.int (48 : Int32))]) (z := (1 : Int32)) ⟨by decide, rfl⟩ (by decide) rfl (g := (mkF m 12 #[.val (.ref a1)] [(.ref a1)])) rfl (hb hby d_prog_17_method_2_12) (n := 4) (by decide) (by decide) (by decide) (by decide)
  have O3 : Old Z n0 h2 := Old.ext O0 E2
  have K4 : Keep h0 h2 [] := (Keep.refl h0 []).ext E2
  have hk5 := Nat.le_trans hk0 E2.1
  have nn6 := hne2 a1 (Cr2.safe (hCH.2 a1 (List.mem_of_getElem? (i := 0) rfl)).1 (hCH.2 a1 (List.mem_of_getElem? (i := 0) rfl)).2)
  have t7 : Exa Z h2 a1 nString_0 := (E_a1.ext E2)
  have t8 : Fld Z h2 a1 nString_0 "coder" "B" (.int (0 : Int32)) := (F_a1_coder.ext E2)
  have t9 : Fld Z h2 a1 nString_0 "value" "[B" (.ref a2) := (F_a1_value.ext E2)
  have t10 : Arv Z h2 a2 k3 .byte (1 : Int32) [(.int i4)] (.int (0 : Int32)) := (V_a2.ext E2)
  obtain ⟨cq11, kq11, q11a, q11b, q11c⟩ := isOf hZ2 e2 (t7)
  obtain ⟨_, _, ⟨T11, L11, k11, n11⟩, -, X11, ⟨Lc11, hQ11, l11, y11, z11⟩, st11⟩ := X2.virtualBack hx (y := my_13) (z := my_13) hown2 (mvT hZ2 (wq hw 48 rfl)) (mvT hZ2 (wq hw 49 rfl)) (notFace_of_selects (args := #[]) (mvT hZ2 (wq hw 51 rfl))) (mvT hZ2 (wq hw 51 rfl)) (mvT hZ2 (wq hw 50 rfl)) (by decide) (backOf (W := 0) (rc29_equals l Z a0 hw [] cs hS a1 sa2 a2 sb2 k3 i4 kc2 h2 n0 O3 g_a1 g_a2 t8 t9 A2 Fc2 Fv2 t10 Va2 hy0 nn6.1) hZ2 (wq hw 52 rfl) (wq hw 7 rfl) (by decide) (by decide)) q11a q11c (g := (mkF m 14 #[.val (.ref a1)] [(.ref sa2), (.ref a1)])) rfl (by rw [hml]; rfl) (Steps.refl _) (argsL := [(.ref sa2)]) (rest := []) (lenOf pd_12 rfl) rfl (by show 2 * 0 + _ ≤ _; exact Nat.le_of_eq rfl) (hb hby d_prog_17_method_2_14) (fun _ _ => ⟨rfl, e2, (by decide : 2 + 0 ≤ _), (by decide : 8 + 0 ≤ _)⟩)
  dsimp only [Pt.U, Pt.locs, Pt.cells, Pt.slots] at X11 l11 y11 z11 st11 hQ11
  have X11 := own_to X11 l11 y11 z11
  obtain ⟨rfl, N11q, e11⟩ := hQ11
  have N11 := Fr.app N1 N11q
  obtain ⟨fs, hr, hrun, hended, hEW⟩ := Jvm.Stand.leaveW X11 hS2 (by rw [e11]; exact hk2) (v := (some (.int (0 : Int32)))) (fun h => by rw [Bd.returns] at h; cases h)
  refine ⟨_, _, pre0 _ ?_, hrun, hended, _, _, rfl, ?_, ⟨_, rfl⟩, hEW.2.1, hEW.2.2.1, hEW.2.2.2.mono (by decide) (by decide)⟩
  · refine XS.aloadN X0.here hx rfl (hb hby d_prog_17_method_2_0) rfl rfl ?_
    refine XS.ifnullNo X0.here hx rfl (hb hby d_prog_17_method_2_1) rfl ?_
    refine XS.aloadN X0.here hx rfl (hb hby d_prog_17_method_2_4) rfl rfl ?_
    refine st1.trans ?_
    refine XS.ifNo X1.here hx rfl (hb hby d_prog_17_method_2_8) rfl ((if0 _ _).trans (teq (by decide : (0 : Int32) = (0 : Int32))).2) ?_
    refine XS.aloadN X1.here hx rfl (hb hby d_prog_17_method_2_11) rfl rfl ?_
    refine st2 _ ?_
    refine st11.trans ?_
    refine XS.ifYes X11.here hx rfl (pc0 := 17) (pc' := 24) rfl (hb hby d_prog_17_method_2_17) rfl ((if0 _ _).trans (feq (by decide : ¬ ((1 : Int32) = (0 : Int32)))).2) (by decide) (by decide) ?_
    refine XS.iconst X11.here hx rfl (hb hby d_prog_17_method_2_24) ?_
    exact retN X11 hx (t := .boolean) Bd.returns (by simp) (hb hby d_prog_17_method_2_25) hr
  · show Q_rc27_traceAsked Z a1 a2 k3 i4 h0 n0 _ T11.heap _
    rw [e11]
    exact ⟨rfl, N11, K4⟩
def Q_rc33_equals (Z : State) (a1 : Addr) (a2 : Addr) (k3 : ClassId) (i4 : Int32) (k5 : ClassId) (h0 : Heap) (n0 : Nat) (v : Option Value) (h : Heap) (L : List Loc) : Prop := v = some (.int (0 : Int32)) ∧ Fr n0 L ∧ h = h0
set_option maxRecDepth 65536 in
set_option maxHeartbeats 40000000 in
theorem rc33_equals (l : Launch) (Z : State) (a0 : Array Value) (hw : ∀ d ∈ tables_1, d.before a0 Z = true) (ws : List Jvm.Cond) (cs : Int32) (hS : SB Z cs) (a1 : Addr) (a2 : Addr) (k3 : ClassId) (i4 : Int32) (k5 : ClassId) (h0 : Heap) (n0 : Nat) (O0 : Old Z n0 h0) (g_a1 : n0 ≤ a1) (V_a1 : Arv Z h0 a1 k3 .byte (1 : Int32) [(.int i4)] (.int (0 : Int32))) (V_a2 : Arv Z h0 a2 k5 .byte (1 : Int32) [(.int (48 : Int32))] (.int (0 : Int32))) (hy0 : ¬ i4 = (48 : Int32)) :
    Met l my_14 jdk_43_method_13_code 3 (some .boolean) ws ({ frames := 0, cells := 0, slots := 0, locals := 0 } : Room) #[(.ref a1), (.ref a2)] Z h0 (Q_rc33_equals Z a1 a2 k3 i4 k5 h0 n0) := by
  refine MetFree.of_bodySF (plainFor_of_name pn_4) hisR ?_
  intro p e s m args below meth c s₁ Bd hml0 hP hK
  obtain ⟨rfl, hZ, hh⟩ := hP
  have hx := Bd.exec
  have hby := Bd.bytes
  have hml : c.maxLocals = 3 := hml0
  have hown : s.vm.findClass "java/lang/StringLatin1" = some m.cls := findClass_of_methodNamed Bd.named
  have hnm := (name_of_methodNamed Bd.named Bd.method).1
  have X0 : Stand p l e ({ frames := 0, cells := 0, slots := 0, locals := 0 } : Room) s m #[(.ref a1), (.ref a2)] below meth c s₁ [] 0 0 := Stand.of_body Bd
  have e0 : s₁.heap = h0 := by rw [← hh, Bd.state]; rfl
  have N0 := Fr.nil n0
  obtain ⟨f₀, hf₀⟩ : ∃ f, f = entryFrame m #[(.ref a1), (.ref a2)] 3 := ⟨_, rfl⟩
  rw [← hf₀]
  have pre0 : Go p e below s₁ f₀ s₁ (mkF m 0 #[.val (.ref a1), .val (.ref a2), .unset] []) := fun t k => castTop (hf₀.trans (ef_rc33_equals m (a1) (a2))) k
  obtain ⟨c1, Ar1, q1, S1, M1, Hh1, G1⟩ := (id V_a1)
  obtain ⟨c2, Ar2, q2, S2, M2, Hh2, G2⟩ := (id V_a2)
  obtain ⟨c3, Ar3, q3, S3, M3, Hh3, G3⟩ := (id V_a1)
  obtain ⟨c4, Ar4, q4, S4, M4, Hh4, G4⟩ := (id V_a1)
  have hin4 : ¬ ((0 : Int32) < 0 ∨ c4.slots.size ≤ ((0 : Int32)).toNatClampNeg) := inb_of S4 ⟨by decide, by decide⟩
  have hat4 : c4.slots[((0 : Int32)).toNatClampNeg]? = some (.int i4) := Hh4.at hin4 rfl
  obtain ⟨c5, Ar5, q5, S5, M5, Hh5, G5⟩ := (id V_a2)
  have hin5 : ¬ ((0 : Int32) < 0 ∨ c5.slots.size ≤ ((0 : Int32)).toNatClampNeg) := inb_of S5 ⟨by decide, by decide⟩
  have hat5 : c5.slots[((0 : Int32)).toNatClampNeg]? = some (.int (48 : Int32)) := Hh5.at hin5 rfl
  obtain ⟨fs, hr, hrun, hended, hW, hsame⟩ := X0.leave (v := (some (.int (0 : Int32)))) (fun h => by rw [Bd.returns] at h; cases h)
  refine ⟨_, _, pre0 _ ?_, hrun, hended, _, _, rfl, ?_, ⟨_, rfl⟩, hW, hsame.mono (by decide) (by decide)⟩
  · refine XS.aloadN X0.here hx rfl (hb hby d_jdk_43_method_13_0) rfl rfl ?_
    refine X0.arraylength hx (by rw [e0]; exact Ar1.1) (State.isArrayOf_alike hZ.alike Ar1.2.1) (g := (mkF m 1 #[.val (.ref a1), .val (.ref a2), .unset] [(.ref a1)])) rfl rfl (hb hby d_jdk_43_method_13_1) _ ?_
    rw [len_of S1 M1]
    refine XS.aloadN X0.here hx rfl (hb hby d_jdk_43_method_13_2) rfl rfl ?_
    refine X0.arraylength hx (by rw [e0]; exact Ar2.1) (State.isArrayOf_alike hZ.alike Ar2.2.1) (g := (mkF m 3 #[.val (.ref a1), .val (.ref a2), .unset] [(.ref a2), (.int (1 : Int32))])) rfl rfl (hb hby d_jdk_43_method_13_3) _ ?_
    rw [len_of S2 M2]
    refine XS.icmpNo X0.here hx rfl (hb hby d_jdk_43_method_13_4) rfl (teq (by decide : (1 : Int32) = (1 : Int32))).2 ?_
    refine XS.iconst X0.here hx rfl (hb hby d_jdk_43_method_13_7) ?_
    refine XS.istoreN X0.here hx rfl (hb hby d_jdk_43_method_13_8) rfl (l' := #[.val (.ref a1), .val (.ref a2), .val (.int (0 : Int32))]) rfl ?_
    refine XS.iloadN X0.here hx rfl (hb hby d_jdk_43_method_13_9) rfl ?_
    refine XS.aloadN X0.here hx rfl (hb hby d_jdk_43_method_13_10) rfl rfl ?_
    refine X0.arraylength hx (by rw [e0]; exact Ar3.1) (State.isArrayOf_alike hZ.alike Ar3.2.1) (g := (mkF m 11 #[.val (.ref a1), .val (.ref a2), .val (.int (0 : Int32))] [(.ref a1), (.int (0 : Int32))])) rfl rfl (hb hby d_jdk_43_method_13_11) _ ?_
    rw [len_of S3 M3]
    refine XS.icmpNo X0.here hx rfl (hb hby d_jdk_43_method_13_12) rfl (tlt (by decide : (0 : Int32) < (1 : Int32))).2.1 ?_
    refine XS.aloadN X0.here hx rfl (hb hby d_jdk_43_method_13_15) rfl rfl ?_
    refine XS.iloadN X0.here hx rfl (hb hby d_jdk_43_method_13_16) rfl ?_
    refine X0.baloadBytes hx (j := (0 : Int32)) (v := (.int i4)) (by rw [e0]; exact Ar4.1) (State.isArrayOf_alike hZ.alike Ar4.2.1) Ar4.2.2 hin4 hat4 (g := (mkF m 17 #[.val (.ref a1), .val (.ref a2), .val (.int (0 : Int32))] [(.int (0 : Int32)), (.ref a1)])) rfl rfl (hb hby d_jdk_43_method_13_17) _ ?_
    refine XS.aloadN X0.here hx rfl (hb hby d_jdk_43_method_13_18) rfl rfl ?_
    refine XS.iloadN X0.here hx rfl (hb hby d_jdk_43_method_13_19) rfl ?_
    refine X0.baloadBytes hx (j := (0 : Int32)) (v := (.int (48 : Int32))) (by rw [e0]; exact Ar5.1) (State.isArrayOf_alike hZ.alike Ar5.2.1) Ar5.2.2 hin5 hat5 (g := (mkF m 20 #[.val (.ref a1), .val (.ref a2), .val (.int (0 : Int32))] [(.int (0 : Int32)), (.ref a2), (.int i4)])) rfl rfl (hb hby d_jdk_43_method_13_20) _ ?_
    refine XS.icmpNo X0.here hx rfl (hb hby d_jdk_43_method_13_21) rfl (feq hy0).1 ?_
    refine XS.iconst X0.here hx rfl (hb hby d_jdk_43_method_13_24) ?_
    exact retN X0 hx (t := .boolean) Bd.returns (by simp) (hb hby d_jdk_43_method_13_25) hr
  · show Q_rc33_equals Z a1 a2 k3 i4 k5 h0 n0 _ s₁.heap _
    rw [e0]
    exact ⟨rfl, N0, rfl⟩
def Q_rc32_equals (Z : State) (a1 : Addr) (a2 : Addr) (a3 : Addr) (a4 : Addr) (k5 : ClassId) (i6 : Int32) (k7 : ClassId) (h0 : Heap) (n0 : Nat) (v : Option Value) (h : Heap) (L : List Loc) : Prop := v = some (.int (0 : Int32)) ∧ Fr n0 L ∧ h = h0
set_option maxRecDepth 65536 in
set_option maxHeartbeats 40000000 in
theorem rc32_equals (l : Launch) (Z : State) (a0 : Array Value) (hw : ∀ d ∈ tables_1, d.before a0 Z = true) (ws : List Jvm.Cond) (cs : Int32) (hS : SB Z cs) (a1 : Addr) (a2 : Addr) (a3 : Addr) (a4 : Addr) (k5 : ClassId) (i6 : Int32) (k7 : ClassId) (h0 : Heap) (n0 : Nat) (O0 : Old Z n0 h0) (g_a1 : n0 ≤ a1) (g_a3 : n0 ≤ a3) (F_a1_coder : Fld Z h0 a1 nString_0 "coder" "B" (.int (0 : Int32))) (F_a1_value : Fld Z h0 a1 nString_0 "value" "[B" (.ref a3)) (E_a2 : Exa Z h0 a2 nString_0) (F_a2_coder : Fld Z h0 a2 nString_0 "coder" "B" (.int (0 : Int32))) (F_a2_value : Fld Z h0 a2 nString_0 "value" "[B" (.ref a4)) (V_a3 : Arv Z h0 a3 k5 .byte (1 : Int32) [(.int i6)] (.int (0 : Int32))) (V_a4 : Arv Z h0 a4 k7 .byte (1 : Int32) [(.int (48 : Int32))] (.int (0 : Int32))) (hy0 : ¬ i6 = (48 : Int32)) (hy1 : ¬ a1 = a2) :
    Met l my_13 jdk_42_method_66_code 3 (some .boolean) ws ({ frames := 1, cells := 0, slots := 0, locals := 14 } : Room) #[(.ref a1), (.ref a2)] Z h0 (Q_rc32_equals Z a1 a2 a3 a4 k5 i6 k7 h0 n0) := by
  refine MetFree.of_bodySF (plainFor_of_name pn_1) hisR ?_
  intro p e s m args below meth c s₁ Bd hml0 hP hK
  obtain ⟨rfl, hZ, hh⟩ := hP
  have hx := Bd.exec
  have hby := Bd.bytes
  have hml : c.maxLocals = 3 := hml0
  have hown : s.vm.findClass nString_0 = some m.cls := findClass_of_methodNamed Bd.named
  have hnm := (name_of_methodNamed Bd.named Bd.method).1
  have X0 : Stand p l e ({ frames := 1, cells := 0, slots := 0, locals := 14 } : Room) s m #[(.ref a1), (.ref a2)] below meth c s₁ [] 0 0 := Stand.of_body Bd
  have e0 : s₁.heap = h0 := by rw [← hh, Bd.state]; rfl
  have N0 := Fr.nil n0
  obtain ⟨f₀, hf₀⟩ : ∃ f, f = entryFrame m #[(.ref a1), (.ref a2)] 3 := ⟨_, rfl⟩
  rw [← hf₀]
  have pre0 : Go p e below s₁ f₀ s₁ (mkF m 0 #[.val (.ref a1), .val (.ref a2), .unset] []) := fun t k => castTop (hf₀.trans (ef_rc32_equals m (a1) (a2))) k
  obtain ⟨T1, X1, e1, st1⟩ := instY X0 hx hZ hown (wq hw 53 rfl) e0 (Ins.self E_a2) (g := (mkF m 8 #[.val (.ref a1), .val (.ref a2), .unset] [(.ref a2)])) rfl rfl (hb hby d_jdk_42_method_66_8)
  obtain ⟨T2, X2, e2, st2⟩ := castY X1 hx hZ hown (wq hw 53 rfl) e1 (Ins.self E_a2) (g := (mkF m 15 #[.val (.ref a1), .val (.ref a2), .unset] [(.ref a2)])) rfl rfl (hb hby d_jdk_42_method_66_15)
  obtain ⟨T3, X3, e3, st3⟩ := getS2 X2 hx hZ hown (host := "") (Or.inl (wq hw 36 rfl)) Via.refl e2 (hS.1.ext O0.2) (g := (mkF m 19 #[.val (.ref a1), .val (.ref a2), .val (.ref a2)] [])) rfl (hb hby d_jdk_42_method_66_19)
  obtain ⟨T4, X4, e4, st4⟩ := getF X3 hx hZ hown (host := "") (Or.inl (wq hw 26 rfl)) Via.refl e3 F_a1_coder (g := (mkF m 26 #[.val (.ref a1), .val (.ref a2), .val (.ref a2)] [(.ref a1)])) rfl rfl (hb hby d_jdk_42_method_66_26)
  obtain ⟨T5, X5, e5, st5⟩ := getF X4 hx hZ hown (host := "") (Or.inl (wq hw 26 rfl)) Via.refl e4 F_a2_coder (g := (mkF m 30 #[.val (.ref a1), .val (.ref a2), .val (.ref a2)] [(.ref a2), (.int (0 : Int32))])) rfl rfl (hb hby d_jdk_42_method_66_30)
  obtain ⟨T6, X6, e6, st6⟩ := getF X5 hx hZ hown (host := "") (Or.inl (wq hw 25 rfl)) Via.refl e5 F_a1_value (g := (mkF m 37 #[.val (.ref a1), .val (.ref a2), .val (.ref a2)] [(.ref a1)])) rfl rfl (hb hby d_jdk_42_method_66_37)
  obtain ⟨T7, X7, e7, st7⟩ := getF X6 hx hZ hown (host := "") (Or.inl (wq hw 25 rfl)) Via.refl e6 F_a2_value (g := (mkF m 41 #[.val (.ref a1), .val (.ref a2), .val (.ref a2)] [(.ref a2), (.ref a3)])) rfl rfl (hb hby d_jdk_42_method_66_41)
  obtain ⟨_, _, ⟨T8, L8, k8, n8⟩, -, X8, ⟨Lc8, hQ8, l8, y8, z8⟩, st8⟩ := Jvm.LawKit.callS X7 hx (y := my_14) hown (mvT hZ (wq hw 54 rfl)) (mvT hZ (wq hw 55 rfl)) (mvT hZ (wq hw 56 rfl)) (mvT hZ (wq hw 57 rfl)) (by decide) (backOf (W := 0) (rc33_equals l Z a0 hw [] cs hS a3 a4 k5 i6 k7 h0 n0 O0 g_a3 V_a3 V_a4 hy0) hZ (wq hw 57 rfl) (wq hw 56 rfl) (by decide) (by decide)) (g := (mkF m 44 #[.val (.ref a1), .val (.ref a2), .val (.ref a2)] [(.ref a4), (.ref a3)])) rfl (by rw [hml]; rfl) (argsL := [(.ref a3), (.ref a4)]) (rest := []) (lenOf pd_13 rfl) rfl (by show 2 * 0 + _ ≤ _; exact Nat.le_of_eq rfl) (hb hby d_jdk_42_method_66_44) (fun _ _ => ⟨rfl, e7, (by decide : 0 + 0 ≤ _), (by decide : 0 + 0 ≤ _)⟩)
  dsimp only [Pt.U, Pt.locs, Pt.cells, Pt.slots] at X8 l8 y8 z8 st8 hQ8
  have X8 := own_to X8 l8 y8 z8
  obtain ⟨rfl, N8q, e8⟩ := hQ8
  have N8 := Fr.app N0 N8q
  obtain ⟨fs, hr, hrun, hended, hW, hsame⟩ := X8.leave (v := (some (.int (0 : Int32)))) (fun h => by rw [Bd.returns] at h; cases h)
  refine ⟨_, _, pre0 _ ?_, hrun, hended, _, _, rfl, ?_, ⟨_, rfl⟩, hW, hsame.mono (by decide) (by decide)⟩
  · refine XS.aloadN X0.here hx rfl (hb hby d_jdk_42_method_66_0) rfl rfl ?_
    refine XS.aloadN X0.here hx rfl (hb hby d_jdk_42_method_66_1) rfl rfl ?_
    refine Jvm.RoadKit.acmp (g := (mkF m 2 #[.val (.ref a1), .val (.ref a2), .unset] [(.ref a2), (.ref a1)])) X0 hx rfl rfl rfl (pc0 := 2) (pc' := 7) (same := false) rfl (hb hby d_jdk_42_method_66_2) rfl (decide_eq_false fun q => hy1 (Value.ref.inj q)) (by decide) (by decide) ?_
    refine XS.aloadN X0.here hx rfl (hb hby d_jdk_42_method_66_7) rfl rfl ?_
    refine st1 _ ?_
    refine XS.ifNo X1.here hx rfl (hb hby d_jdk_42_method_66_11) rfl ((if0 _ _).trans (feq (by decide : ¬ ((1 : Int32) = (0 : Int32)))).1) ?_
    refine XS.aloadN X1.here hx rfl (hb hby d_jdk_42_method_66_14) rfl rfl ?_
    refine st2 _ ?_
    refine XS.astoreN X2.here hx rfl (hb hby d_jdk_42_method_66_18) rfl rfl (l' := #[.val (.ref a1), .val (.ref a2), .val (.ref a2)]) rfl ?_
    refine st3 _ ?_
    refine XS.ifNo X3.here hx rfl (hb hby d_jdk_42_method_66_22) rfl ((if0 _ _).trans (feq hS.2.1).1) ?_
    refine XS.aloadN X3.here hx rfl (hb hby d_jdk_42_method_66_25) rfl rfl ?_
    refine st4 _ ?_
    refine XS.aloadN X4.here hx rfl (hb hby d_jdk_42_method_66_29) rfl rfl ?_
    refine st5 _ ?_
    refine XS.icmpNo X5.here hx rfl (hb hby d_jdk_42_method_66_33) rfl (teq (by decide : (0 : Int32) = (0 : Int32))).2 ?_
    refine XS.aloadN X5.here hx rfl (hb hby d_jdk_42_method_66_36) rfl rfl ?_
    refine st6 _ ?_
    refine XS.aloadN X6.here hx rfl (hb hby d_jdk_42_method_66_40) rfl rfl ?_
    refine st7 _ ?_
    refine st8 _ ?_
    refine XS.ifYes X8.here hx rfl (pc0 := 47) (pc' := 54) rfl (hb hby d_jdk_42_method_66_47) rfl ((if0 _ _).trans (teq (by decide : (0 : Int32) = (0 : Int32))).1) (by decide) (by decide) ?_
    refine XS.iconst X8.here hx rfl (hb hby d_jdk_42_method_66_54) ?_
    exact retN X8 hx (t := .boolean) Bd.returns (by simp) (hb hby d_jdk_42_method_66_55) hr
  · show Q_rc32_equals Z a1 a2 a3 a4 k5 i6 k7 h0 n0 _ T8.heap _
    rw [e8]
    exact ⟨rfl, N8, rfl⟩
def Q_rc31_traceAsked (Z : State) (a1 : Addr) (a2 : Addr) (k3 : ClassId) (i4 : Int32) (h0 : Heap) (n0 : Nat) (v : Option Value) (h : Heap) (L : List Loc) : Prop := v = some (.int (1 : Int32)) ∧ Fr n0 L ∧ Keep h0 h []
set_option maxRecDepth 65536 in
set_option maxHeartbeats 40000000 in
theorem rc31_traceAsked (l : Launch) (Z : State) (a0 : Array Value) (hw : ∀ d ∈ tables_1, d.before a0 Z = true) (ws : List Jvm.Cond) (cs : Int32) (hS : SB Z cs) (a1 : Addr) (a2 : Addr) (k3 : ClassId) (i4 : Int32) (h0 : Heap) (n0 : Nat) (O0 : Old Z n0 h0) (g_a1 : n0 ≤ a1) (g_a2 : n0 ≤ a2) (E_a1 : Exa Z h0 a1 nString_0) (F_a1_coder : Fld Z h0 a1 nString_0 "coder" "B" (.int (0 : Int32))) (F_a1_value : Fld Z h0 a1 nString_0 "value" "[B" (.ref a2)) (V_a2 : Arv Z h0 a2 k3 .byte (1 : Int32) [(.int i4)] (.int (0 : Int32))) (hy0 : ¬ i4 = (48 : Int32)) :
    MetH l my_0 prog_17_method_2_code 1 (some .boolean) ws ({ frames := 2, cells := 2, slots := 8, locals := 28 } : Room) #[(.ref a1)] Z h0 [a1] (Q_rc31_traceAsked Z a1 a2 k3 i4 h0 n0) := by
  refine MetFree.of_bodySF (plainFor_of_name pn_0) hisR ?_
  intro p e s m args below meth c s₁ Bd hml0 hP hK
  obtain ⟨rfl, hZ, hh, hCH⟩ := hP
  have hx := Bd.exec
  have hby := Bd.bytes
  have hml : c.maxLocals = 1 := hml0
  have hown : s.vm.findClass nUnfore_2 = some m.cls := findClass_of_methodNamed Bd.named
  have hnm := (name_of_methodNamed Bd.named Bd.method).1
  have X0 : Stand p l e ({ frames := 2, cells := 2, slots := 8, locals := 28 } : Room) (s.setVm s.vm) m #[(.ref a1)] below meth c s₁ [] 0 0 := Stand.of_body Bd
  have e0 : s₁.heap = h0 := by rw [← hh, Bd.state]; rfl
  have N0 := Fr.nil n0
  obtain ⟨f₀, hf₀⟩ : ∃ f, f = entryFrame m #[(.ref a1)] 1 := ⟨_, rfl⟩
  rw [← hf₀]
  have pre0 : Go p e below s₁ f₀ s₁ (mkF m 0 #[.val (.ref a1)] []) := fun t k => castTop (hf₀.trans (ef_rc31_traceAsked m (a1))) k
  have hZ0 : Z.Warmed39 (s.setVm s.vm).vm := hZ
  have hown0 : (s.setVm s.vm).vm.findClass nUnfore_2 = some m.cls := hown
  have hS0 : s.Since s.vm s.heap.size := (State.WarmedH.refl s).since _
  have hk0 : s.heap.size ≤ h0.size := by rw [hh]; exact Nat.le_refl _
  obtain ⟨cq1, kq1, q1a, q1b, q1c⟩ := isOf hZ0 e0 (E_a1)
  obtain ⟨_, _, ⟨T1, L1, k1, n1⟩, -, X1, ⟨Lc1, hQ1, l1, y1, z1⟩, st1⟩ := X0.virtualBack hx (y := my_4) (z := my_4) hown0 (mvT hZ0 (wq hw 31 rfl)) (mvT hZ0 (wq hw 32 rfl)) (notFace_of_selects (args := #[]) (mvT hZ0 (wq hw 34 rfl))) (mvT hZ0 (wq hw 34 rfl)) (mvT hZ0 (wq hw 33 rfl)) (by decide) (backOf (W := 0) (rc28_isEmpty l Z a0 hw [] cs hS a1 a2 k3 i4 h0 n0 O0 g_a1 g_a2 F_a1_value V_a2) hZ0 (wq hw 35 rfl) (wq hw 7 rfl) (by decide) (by decide)) q1a q1c (g := (mkF m 5 #[.val (.ref a1)] [(.ref a1)])) rfl (by rw [hml]; rfl) (Steps.refl _) (argsL := []) (rest := []) (lenOf pd_4 rfl) rfl (by show 2 * 0 + _ ≤ _; exact Nat.le_of_eq rfl) (hb hby d_prog_17_method_2_5) (fun _ _ => ⟨rfl, e0, (by decide : 0 + 0 ≤ _), (by decide : 0 + 0 ≤ _)⟩)
  dsimp only [Pt.U, Pt.locs, Pt.cells, Pt.slots] at X1 l1 y1 z1 st1 hQ1
  have X1 := own_to X1 l1 y1 z1
  obtain ⟨rfl, N1q, e1⟩ := hQ1
  have N1 := Fr.app N0 N1q
  obtain ⟨sa2, T2, h2, k2, sb2, kc2, X2, e2, E2, hS2, hk2, hZ2, hown2, A2, Fc2, Fv2, Va2, la2, lb2, Cr2, Lt2, hne2, st2⟩ := ldcCH X1 hx hZ0 hown0 (wq hw 47 rfl) (own_wS hw) e1 hS0 hk0 (own_EL hw) (List.mem_of_getElem? (i := 0) rfl) hCH.1 (vs := [(.int (48 : Int32))]) (z := (1 : Int32)) ⟨by decide, rfl⟩ (by decide) rfl (g := (mkF m 12 #[.val (.ref a1)] [(.ref a1)])) rfl (hb hby d_prog_17_method_2_12) (n := 4) (by decide) (by decide) (by decide) (by decide)
  have O3 : Old Z n0 h2 := Old.ext O0 E2
  have K4 : Keep h0 h2 [] := (Keep.refl h0 []).ext E2
  have hk5 := Nat.le_trans hk0 E2.1
  have nn6 := hne2 a1 (Cr2.safe (hCH.2 a1 (List.mem_of_getElem? (i := 0) rfl)).1 (hCH.2 a1 (List.mem_of_getElem? (i := 0) rfl)).2)
  have t7 : Exa Z h2 a1 nString_0 := (E_a1.ext E2)
  have t8 : Fld Z h2 a1 nString_0 "coder" "B" (.int (0 : Int32)) := (F_a1_coder.ext E2)
  have t9 : Fld Z h2 a1 nString_0 "value" "[B" (.ref a2) := (F_a1_value.ext E2)
  have t10 : Arv Z h2 a2 k3 .byte (1 : Int32) [(.int i4)] (.int (0 : Int32)) := (V_a2.ext E2)
  obtain ⟨cq11, kq11, q11a, q11b, q11c⟩ := isOf hZ2 e2 (t7)
  obtain ⟨_, _, ⟨T11, L11, k11, n11⟩, -, X11, ⟨Lc11, hQ11, l11, y11, z11⟩, st11⟩ := X2.virtualBack hx (y := my_13) (z := my_13) hown2 (mvT hZ2 (wq hw 48 rfl)) (mvT hZ2 (wq hw 49 rfl)) (notFace_of_selects (args := #[]) (mvT hZ2 (wq hw 51 rfl))) (mvT hZ2 (wq hw 51 rfl)) (mvT hZ2 (wq hw 50 rfl)) (by decide) (backOf (W := 0) (rc32_equals l Z a0 hw [] cs hS a1 sa2 a2 sb2 k3 i4 kc2 h2 n0 O3 g_a1 g_a2 t8 t9 A2 Fc2 Fv2 t10 Va2 hy0 nn6.1) hZ2 (wq hw 52 rfl) (wq hw 7 rfl) (by decide) (by decide)) q11a q11c (g := (mkF m 14 #[.val (.ref a1)] [(.ref sa2), (.ref a1)])) rfl (by rw [hml]; rfl) (Steps.refl _) (argsL := [(.ref sa2)]) (rest := []) (lenOf pd_12 rfl) rfl (by show 2 * 0 + _ ≤ _; exact Nat.le_of_eq rfl) (hb hby d_prog_17_method_2_14) (fun _ _ => ⟨rfl, e2, (by decide : 2 + 0 ≤ _), (by decide : 8 + 0 ≤ _)⟩)
  dsimp only [Pt.U, Pt.locs, Pt.cells, Pt.slots] at X11 l11 y11 z11 st11 hQ11
  have X11 := own_to X11 l11 y11 z11
  obtain ⟨rfl, N11q, e11⟩ := hQ11
  have N11 := Fr.app N1 N11q
  obtain ⟨fs, hr, hrun, hended, hEW⟩ := Jvm.Stand.leaveW X11 hS2 (by rw [e11]; exact hk2) (v := (some (.int (1 : Int32)))) (fun h => by rw [Bd.returns] at h; cases h)
  refine ⟨_, _, pre0 _ ?_, hrun, hended, _, _, rfl, ?_, ⟨_, rfl⟩, hEW.2.1, hEW.2.2.1, hEW.2.2.2.mono (by decide) (by decide)⟩
  · refine XS.aloadN X0.here hx rfl (hb hby d_prog_17_method_2_0) rfl rfl ?_
    refine XS.ifnullNo X0.here hx rfl (hb hby d_prog_17_method_2_1) rfl ?_
    refine XS.aloadN X0.here hx rfl (hb hby d_prog_17_method_2_4) rfl rfl ?_
    refine st1.trans ?_
    refine XS.ifNo X1.here hx rfl (hb hby d_prog_17_method_2_8) rfl ((if0 _ _).trans (teq (by decide : (0 : Int32) = (0 : Int32))).2) ?_
    refine XS.aloadN X1.here hx rfl (hb hby d_prog_17_method_2_11) rfl rfl ?_
    refine st2 _ ?_
    refine st11.trans ?_
    refine XS.ifNo X11.here hx rfl (hb hby d_prog_17_method_2_17) rfl ((if0 _ _).trans (teq (by decide : (0 : Int32) = (0 : Int32))).2) ?_
    refine XS.iconst X11.here hx rfl (hb hby d_prog_17_method_2_20) ?_
    refine XS.goto X11.here hx rfl (pc0 := 21) (pc' := 25) rfl (hb hby d_prog_17_method_2_21) (by decide) (by decide) ?_
    exact retN X11 hx (t := .boolean) Bd.returns (by simp) (hb hby d_prog_17_method_2_25) hr
  · show Q_rc31_traceAsked Z a1 a2 k3 i4 h0 n0 _ T11.heap _
    rw [e11]
    exact ⟨rfl, N11, K4⟩
def Q_rc38_compress (Z : State) (a1 : Addr) (a2 : Addr) (k3 : ClassId) (i4 : Int32) (i5 : Int32) (h0 : Heap) (n0 : Nat) (v : Option Value) (h : Heap) (L : List Loc) : Prop := v = some (.int (0 : Int32)) ∧ Fr n0 L ∧ h = h0
set_option maxRecDepth 65536 in
set_option maxHeartbeats 40000000 in
theorem rc38_compress (l : Launch) (Z : State) (a0 : Array Value) (hw : ∀ d ∈ tables_1, d.before a0 Z = true) (ws : List Jvm.Cond) (cs : Int32) (hS : SB Z cs) (a1 : Addr) (a2 : Addr) (k3 : ClassId) (i4 : Int32) (i5 : Int32) (h0 : Heap) (n0 : Nat) (O0 : Old Z n0 h0) (g_a1 : n0 ≤ a1) (g_a2 : n0 ≤ a2) (V_a1 : Arv Z h0 a1 k3 .char (2 : Int32) [(.int i4), (.int i5)] (.int (0 : Int32))) (hy2 : (255 : Int32) < i4) :
    Met l my_5 jdk_52_method_21_code 7 (some .int) ws ({ frames := 0, cells := 0, slots := 0, locals := 0 } : Room) #[(.ref a1), (.int (0 : Int32)), (.ref a2), (.int (0 : Int32)), (.int (2 : Int32))] Z h0 (Q_rc38_compress Z a1 a2 k3 i4 i5 h0 n0) := by
  refine MetFree.of_bodySF (plainFor_of_name pn_3) hisR ?_
  intro p e s m args below meth c s₁ Bd hml0 hP hK
  obtain ⟨rfl, hZ, hh⟩ := hP
  have hx := Bd.exec
  have hby := Bd.bytes
  have hml : c.maxLocals = 7 := hml0
  have hown : s.vm.findClass nString_1 = some m.cls := findClass_of_methodNamed Bd.named
  have hnm := (name_of_methodNamed Bd.named Bd.method).1
  have X0 : Stand p l e ({ frames := 0, cells := 0, slots := 0, locals := 0 } : Room) s m #[(.ref a1), (.int (0 : Int32)), (.ref a2), (.int (0 : Int32)), (.int (2 : Int32))] below meth c s₁ [] 0 0 := Stand.of_body Bd
  have e0 : s₁.heap = h0 := by rw [← hh, Bd.state]; rfl
  have N0 := Fr.nil n0
  obtain ⟨f₀, hf₀⟩ : ∃ f, f = entryFrame m #[(.ref a1), (.int (0 : Int32)), (.ref a2), (.int (0 : Int32)), (.int (2 : Int32))] 7 := ⟨_, rfl⟩
  rw [← hf₀]
  have pre0 : Go p e below s₁ f₀ s₁ (mkF m 0 #[.val (.ref a1), .val (.int (0 : Int32)), .val (.ref a2), .val (.int (0 : Int32)), .val (.int (2 : Int32)), .unset, .unset] []) := fun t k => castTop (hf₀.trans (ef_rc38_compress m (a1) ((0 : Int32)) (a2) ((0 : Int32)) ((2 : Int32)))) k
  obtain ⟨c1, Ar1, q1, S1, M1, Hh1, G1⟩ := (id V_a1)
  have hin1 : ¬ ((0 : Int32) < 0 ∨ c1.slots.size ≤ ((0 : Int32)).toNatClampNeg) := inb_of S1 ⟨by decide, by decide⟩
  have hat1 : c1.slots[((0 : Int32)).toNatClampNeg]? = some (.int i4) := Hh1.at hin1 rfl
  obtain ⟨fs, hr, hrun, hended, hW, hsame⟩ := X0.leave (v := (some (.int (0 : Int32)))) (fun h => by rw [Bd.returns] at h; cases h)
  refine ⟨_, _, pre0 _ ?_, hrun, hended, _, _, rfl, ?_, ⟨_, rfl⟩, hW, hsame.mono (by decide) (by decide)⟩
  · refine XS.iconst X0.here hx rfl (hb hby d_jdk_52_method_21_0) ?_
    refine XS.istore X0.here hx rfl (hb hby d_jdk_52_method_21_1) rfl (l' := #[.val (.ref a1), .val (.int (0 : Int32)), .val (.ref a2), .val (.int (0 : Int32)), .val (.int (2 : Int32)), .val (.int (0 : Int32)), .unset]) rfl ?_
    refine XS.iload X0.here hx rfl (hb hby d_jdk_52_method_21_3) rfl ?_
    refine XS.iload X0.here hx rfl (hb hby d_jdk_52_method_21_5) rfl ?_
    refine XS.icmpNo X0.here hx rfl (hb hby d_jdk_52_method_21_7) rfl (tlt (by decide : (0 : Int32) < (2 : Int32))).2.1 ?_
    refine XS.aloadN X0.here hx rfl (hb hby d_jdk_52_method_21_10) rfl rfl ?_
    refine XS.iloadN X0.here hx rfl (hb hby d_jdk_52_method_21_11) rfl ?_
    refine X0.caload hx (j := (0 : Int32)) (v := (.int i4)) (by rw [e0]; exact Ar1.1) (State.isArrayOf_alike hZ.alike Ar1.2.1) Ar1.2.2 hin1 hat1 (g := (mkF m 12 #[.val (.ref a1), .val (.int (0 : Int32)), .val (.ref a2), .val (.int (0 : Int32)), .val (.int (2 : Int32)), .val (.int (0 : Int32)), .unset] [(.int (0 : Int32)), (.ref a1)])) rfl rfl (hb hby d_jdk_52_method_21_12) _ ?_
    refine XS.istore X0.here hx rfl (hb hby d_jdk_52_method_21_13) rfl (l' := #[.val (.ref a1), .val (.int (0 : Int32)), .val (.ref a2), .val (.int (0 : Int32)), .val (.int (2 : Int32)), .val (.int (0 : Int32)), .val (.int i4)]) rfl ?_
    refine XS.iload X0.here hx rfl (hb hby d_jdk_52_method_21_15) rfl ?_
    refine XS.sipush X0.here hx rfl (hb hby d_jdk_52_method_21_17) ?_
    refine XS.icmpNo X0.here hx rfl (hb hby d_jdk_52_method_21_20) rfl (tlt hy2).2.2.2 ?_
    refine XS.iload X0.here hx rfl (hb hby d_jdk_52_method_21_23) rfl ?_
    exact retI X0 hx Bd.returns (hb hby d_jdk_52_method_21_25) hr
  · show Q_rc38_compress Z a1 a2 k3 i4 i5 h0 n0 _ s₁.heap _
    rw [e0]
    exact ⟨rfl, N0, rfl⟩
def Q_rc41_newBytesLength (Z : State)  (h0 : Heap) (n0 : Nat) (v : Option Value) (h : Heap) (L : List Loc) : Prop := v = some (.int (4 : Int32)) ∧ Fr n0 L ∧ h = h0
set_option maxRecDepth 65536 in
set_option maxHeartbeats 40000000 in
theorem rc41_newBytesLength (l : Launch) (Z : State) (a0 : Array Value) (hw : ∀ d ∈ tables_1, d.before a0 Z = true) (ws : List Jvm.Cond) (cs : Int32) (hS : SB Z cs)  (h0 : Heap) (n0 : Nat) (O0 : Old Z n0 h0)  :
    Met l my_6 jdk_52_method_3_code 1 (some .int) ws ({ frames := 0, cells := 0, slots := 0, locals := 0 } : Room) #[(.int (2 : Int32))] Z h0 (Q_rc41_newBytesLength Z h0 n0) := by
  refine MetFree.of_bodySF (plainFor_of_name pn_3) hisR ?_
  intro p e s m args below meth c s₁ Bd hml0 hP hK
  obtain ⟨rfl, hZ, hh⟩ := hP
  have hx := Bd.exec
  have hby := Bd.bytes
  have hml : c.maxLocals = 1 := hml0
  have hown : s.vm.findClass nString_1 = some m.cls := findClass_of_methodNamed Bd.named
  have hnm := (name_of_methodNamed Bd.named Bd.method).1
  have X0 : Stand p l e ({ frames := 0, cells := 0, slots := 0, locals := 0 } : Room) s m #[(.int (2 : Int32))] below meth c s₁ [] 0 0 := Stand.of_body Bd
  have e0 : s₁.heap = h0 := by rw [← hh, Bd.state]; rfl
  have N0 := Fr.nil n0
  obtain ⟨f₀, hf₀⟩ : ∃ f, f = entryFrame m #[(.int (2 : Int32))] 1 := ⟨_, rfl⟩
  rw [← hf₀]
  have pre0 : Go p e below s₁ f₀ s₁ (mkF m 0 #[.val (.int (2 : Int32))] []) := fun t k => castTop (hf₀.trans (ef_rc41_newBytesLength m ((2 : Int32)))) k
  obtain ⟨fs, hr, hrun, hended, hW, hsame⟩ := X0.leave (v := (some (.int (4 : Int32)))) (fun h => by rw [Bd.returns] at h; cases h)
  refine ⟨_, _, pre0 _ ?_, hrun, hended, _, _, rfl, ?_, ⟨_, rfl⟩, hW, hsame.mono (by decide) (by decide)⟩
  · refine XS.iloadN X0.here hx rfl (hb hby d_jdk_52_method_3_0) rfl ?_
    refine XS.ifYes X0.here hx rfl (pc0 := 1) (pc' := 12) rfl (hb hby d_jdk_52_method_3_1) rfl ((if0 _ _).trans (flt (by decide : ¬ ((2 : Int32) < (0 : Int32)))).2.1) (by decide) (by decide) ?_
    refine XS.iloadN X0.here hx rfl (hb hby d_jdk_52_method_3_12) rfl ?_
    refine X0.ldcInt hx hown (mvT hZ (wq hw 67 rfl)) (g := (mkF m 13 #[.val (.int (2 : Int32))] [(.int (2 : Int32))])) rfl (hb hby d_jdk_52_method_3_13) _ ?_
    refine XS.icmpYes X0.here hx rfl (pc0 := 15) (pc' := 55) rfl (hb hby d_jdk_52_method_3_15) rfl (tlt (by decide : (2 : Int32) < (1073741823 : Int32))).1 (by decide) (by decide) ?_
    refine XS.iloadN X0.here hx rfl (hb hby d_jdk_52_method_3_55) rfl ?_
    refine XS.iconst X0.here hx rfl (hb hby d_jdk_52_method_3_56) ?_
    refine XS.ishl X0.here hx rfl (hb hby d_jdk_52_method_3_57) rfl ?_
    show Steps p.tables e below (s₁.setTop (mkF m 58 #[.val (.int (2 : Int32))] [(.int (4 : Int32))])) _
    exact retI X0 hx Bd.returns (hb hby d_jdk_52_method_3_58) hr
  · show Q_rc41_newBytesLength Z h0 n0 _ s₁.heap _
    rw [e0]
    exact ⟨rfl, N0, rfl⟩
def Q_rc40_newBytesFor (Z : State)  (h0 : Heap) (n0 : Nat) (v : Option Value) (h : Heap) (L : List Loc) : Prop := ∃ (b2 : Addr), ∃ (k2 : ClassId), v = some (.ref b2) ∧ Fr n0 L ∧ Keep h0 h [] ∧ h0.size ≤ b2 ∧ Arv Z h b2 k2 .byte (4 : Int32) [(.int (0 : Int32)), (.int (0 : Int32)), (.int (0 : Int32)), (.int (0 : Int32))] (.int (0 : Int32))
set_option maxRecDepth 65536 in
set_option maxHeartbeats 40000000 in
theorem rc40_newBytesFor (l : Launch) (Z : State) (a0 : Array Value) (hw : ∀ d ∈ tables_1, d.before a0 Z = true) (ws : List Jvm.Cond) (cs : Int32) (hS : SB Z cs)  (h0 : Heap) (n0 : Nat) (O0 : Old Z n0 h0)  :
    Met l my_7 jdk_52_method_2_code 1 (some (.array .byte)) ws ({ frames := 1, cells := 1, slots := 4, locals := 12 } : Room) #[(.int (2 : Int32))] Z h0 (Q_rc40_newBytesFor Z h0 n0) := by
  refine MetFree.of_bodySF (plainFor_of_name pn_3) hisR ?_
  intro p e s m args below meth c s₁ Bd hml0 hP hK
  obtain ⟨rfl, hZ, hh⟩ := hP
  have hx := Bd.exec
  have hby := Bd.bytes
  have hml : c.maxLocals = 1 := hml0
  have hown : s.vm.findClass nString_1 = some m.cls := findClass_of_methodNamed Bd.named
  have hnm := (name_of_methodNamed Bd.named Bd.method).1
  have X0 : Stand p l e ({ frames := 1, cells := 1, slots := 4, locals := 12 } : Room) s m #[(.int (2 : Int32))] below meth c s₁ [] 0 0 := Stand.of_body Bd
  have e0 : s₁.heap = h0 := by rw [← hh, Bd.state]; rfl
  have N0 := Fr.nil n0
  obtain ⟨f₀, hf₀⟩ : ∃ f, f = entryFrame m #[(.int (2 : Int32))] 1 := ⟨_, rfl⟩
  rw [← hf₀]
  have pre0 : Go p e below s₁ f₀ s₁ (mkF m 0 #[.val (.int (2 : Int32))] []) := fun t k => castTop (hf₀.trans (ef_rc40_newBytesFor m ((2 : Int32)))) k
  obtain ⟨_, _, ⟨T1, L1, k1, n1⟩, -, X1, ⟨Lc1, hQ1, l1, y1, z1⟩, st1⟩ := Jvm.LawKit.callS X0 hx (y := my_6) hown (mvT hZ (wq hw 64 rfl)) (mvT hZ (wq hw 65 rfl)) (mvT hZ (wq hw 39 rfl)) (mvT hZ (wq hw 66 rfl)) (by decide) (backOf (W := 0) (rc41_newBytesLength l Z a0 hw [] cs hS  h0 n0 O0 ) hZ (wq hw 66 rfl) (wq hw 39 rfl) (by decide) (by decide)) (g := (mkF m 1 #[.val (.int (2 : Int32))] [(.int (2 : Int32))])) rfl (by rw [hml]; rfl) (argsL := [(.int (2 : Int32))]) (rest := []) (lenOf pd_6 rfl) rfl (by show 2 * 0 + _ ≤ _; exact Nat.le_of_eq rfl) (hb hby d_jdk_52_method_2_1) (fun _ _ => ⟨rfl, e0, (by decide : 0 + 0 ≤ _), (by decide : 0 + 0 ≤ _)⟩)
  dsimp only [Pt.U, Pt.locs, Pt.cells, Pt.slots] at X1 l1 y1 z1 st1 hQ1
  have X1 := own_to X1 l1 y1 z1
  obtain ⟨rfl, N1q, e1⟩ := hQ1
  have N1 := Fr.app N0 N1q
  obtain ⟨T2, h2, k2, X2, e2, E2, A2, st2⟩ := newP X1 hx hZ (wq hw 20 rfl) e1 (g := (mkF m 4 #[.val (.int (2 : Int32))] [(.int (4 : Int32))])) rfl (hb hby d_jdk_52_method_2_4) rfl (by decide) (cap := 4) (by decide) (by decide) (by decide) (by decide)
  obtain ⟨b2, gb2⟩ : ∃ z, z = h0.size := ⟨_, rfl⟩
  rw [← gb2] at A2 st2
  have g3 : n0 ≤ b2 := Nat.le_trans (Nat.le_of_eq O0.1.symm) (Nat.le_trans O0.2.1 (Nat.le_of_eq gb2.symm))
  have s4 : h0.size ≤ b2 := Nat.le_trans (Keep.refl h0 []).1 (Nat.le_of_eq gb2.symm)
  have O5 : Old Z n0 h2 := Old.ext O0 E2
  have K6 : Keep h0 h2 [] := (Keep.refl h0 []).ext E2
  have v7 : Arv Z h2 b2 k2 .byte (4 : Int32) [(.int (0 : Int32)), (.int (0 : Int32)), (.int (0 : Int32)), (.int (0 : Int32))] (.int (0 : Int32)) := (Arv.new A2 (by decide)).pad (pad_rep [] (.int (0 : Int32)) 4)
  obtain ⟨fs, hr, hrun, hended, hW, hsame⟩ := X2.leave (v := (some (.ref b2))) (fun h => by rw [Bd.returns] at h; cases h)
  refine ⟨_, _, pre0 _ ?_, hrun, hended, _, _, rfl, ?_, ⟨_, rfl⟩, hW, hsame.mono (by decide) (by decide)⟩
  · refine XS.iloadN X0.here hx rfl (hb hby d_jdk_52_method_2_0) rfl ?_
    refine st1 _ ?_
    refine st2 _ ?_
    exact retOut X2 hx Bd.returns rfl (Or.inr (Or.inr (Or.inr (Or.inr ⟨rfl, rfl, rfl⟩)))) (hb hby d_jdk_52_method_2_6) hr
  · show Q_rc40_newBytesFor Z h0 n0 _ T2.heap _
    rw [e2]
    exact ⟨b2, k2, rfl, N1, K6, s4, v7⟩
def Q_rc42_putChar (Z : State) (a1 : Addr) (i2 : Int32) (k3 : ClassId) (h0 : Heap) (n0 : Nat) (v : Option Value) (h : Heap) (L : List Loc) : Prop := v = none ∧ Fr n0 L ∧ Keep h0 h [a1] ∧ Arv Z h a1 k3 .byte (4 : Int32) [(.int (nar .byte ((i2 >>> ((0 : Int32) &&& 31)).toInt8.toInt32))), (.int (nar .byte ((i2 >>> ((8 : Int32) &&& 31)).toInt8.toInt32))), (.int (0 : Int32)), (.int (0 : Int32))] (.int (0 : Int32))
set_option maxRecDepth 65536 in
set_option maxHeartbeats 40000000 in
theorem rc42_putChar (l : Launch) (Z : State) (a0 : Array Value) (hw : ∀ d ∈ tables_1, d.before a0 Z = true) (ws : List Jvm.Cond) (cs : Int32) (hS : SB Z cs) (a1 : Addr) (i2 : Int32) (k3 : ClassId) (h0 : Heap) (n0 : Nat) (O0 : Old Z n0 h0) (g_a1 : n0 ≤ a1) (V_a1 : Arv Z h0 a1 k3 .byte (4 : Int32) [(.int (0 : Int32)), (.int (0 : Int32)), (.int (0 : Int32)), (.int (0 : Int32))] (.int (0 : Int32))) :
    Met l my_8 jdk_52_method_4_code 3 none ws ({ frames := 0, cells := 0, slots := 0, locals := 0 } : Room) #[(.ref a1), (.int (0 : Int32)), (.int i2)] Z h0 (Q_rc42_putChar Z a1 i2 k3 h0 n0) := by
  refine MetFree.of_bodySF (plainFor_of_name pn_3) hisR ?_
  intro p e s m args below meth c s₁ Bd hml0 hP hK
  obtain ⟨rfl, hZ, hh⟩ := hP
  have hx := Bd.exec
  have hby := Bd.bytes
  have hml : c.maxLocals = 3 := hml0
  have hown : s.vm.findClass nString_1 = some m.cls := findClass_of_methodNamed Bd.named
  have hnm := (name_of_methodNamed Bd.named Bd.method).1
  have X0 : Stand p l e ({ frames := 0, cells := 0, slots := 0, locals := 0 } : Room) s m #[(.ref a1), (.int (0 : Int32)), (.int i2)] below meth c s₁ [] 0 0 := Stand.of_body Bd
  have e0 : s₁.heap = h0 := by rw [← hh, Bd.state]; rfl
  have N0 := Fr.nil n0
  obtain ⟨f₀, hf₀⟩ : ∃ f, f = entryFrame m #[(.ref a1), (.int (0 : Int32)), (.int i2)] 3 := ⟨_, rfl⟩
  rw [← hf₀]
  have pre0 : Go p e below s₁ f₀ s₁ (mkF m 0 #[.val (.ref a1), .val (.int (0 : Int32)), .val (.int i2)] []) := fun t k => castTop (hf₀.trans (ef_rc42_putChar m (a1) ((0 : Int32)) (i2))) k
  obtain ⟨T1, X1, e1, st1⟩ := getS2 X0 hx hZ hown (host := "") (Or.inl (wq hw 71 rfl)) Via.refl e0 (hS.2.2.1.ext O0.2) (g := (mkF m 0 #[.val (.ref a1), .val (.int (0 : Int32)), .val (.int i2)] [])) rfl (hb hby d_jdk_52_method_4_0)
  obtain ⟨T2, X2, e2, st2⟩ := getS2 X1 hx hZ hown (host := "") (Or.inl (wq hw 72 rfl)) Via.refl e1 (hS.2.2.2.1.ext O0.2) (g := (mkF m 38 #[.val (.ref a1), .val (.int (1 : Int32)), .val (.int i2)] [(.int i2), (.int (0 : Int32)), (.ref a1)])) rfl (hb hby d_jdk_52_method_4_38)
  obtain ⟨c3, Ar3, q3, S3, M3, Hh3, G3⟩ := (id V_a1)
  have hin3 : ¬ ((0 : Int32) < 0 ∨ c3.slots.size ≤ ((0 : Int32)).toNatClampNeg) := inb_of S3 ⟨by decide, by decide⟩
  obtain ⟨T4, h4, X4, e4, W4, st4⟩ := stB X2 hx hZ e2 Ar3 (j := (0 : Int32)) hin3 (g := (mkF m 43 #[.val (.ref a1), .val (.int (1 : Int32)), .val (.int i2)] [(.int ((i2 >>> ((0 : Int32) &&& 31)).toInt8.toInt32)), (.int (0 : Int32)), (.ref a1)])) rfl rfl (hb hby d_jdk_52_method_4_43)
  have v5 : Arv Z h4 a1 k3 .byte (4 : Int32) [(.int (nar .byte ((i2 >>> ((0 : Int32) &&& 31)).toInt8.toInt32))), (.int (0 : Int32)), (.int (0 : Int32)), (.int (0 : Int32))] (.int (0 : Int32)) := Arv.set Ar3 q3 S3 M3 Hh3 G3 (fits_nar_byte _) W4 0 rfl (Nat.le_of_ble_eq_true rfl)
  have N4 := Fr.snoc X4 N0 g_a1
  have O6 : Old Z n0 h4 := Old.wr O0 W4 g_a1
  have K7 : Keep h0 h4 [a1] := (Keep.refl h0 [a1]).wr W4 (Or.inl (List.mem_of_getElem? (i := 0) rfl))
  obtain ⟨T8, X8, e8, st8⟩ := getS2 X4 hx hZ hown (host := "") (Or.inl (wq hw 73 rfl)) Via.refl e4 (hS.2.2.2.2.ext O6.2) (g := (mkF m 47 #[.val (.ref a1), .val (.int (1 : Int32)), .val (.int i2)] [(.int i2), (.int (1 : Int32)), (.ref a1)])) rfl (hb hby d_jdk_52_method_4_47)
  obtain ⟨c9, Ar9, q9, S9, M9, Hh9, G9⟩ := (id v5)
  have hin9 : ¬ ((1 : Int32) < 0 ∨ c9.slots.size ≤ ((1 : Int32)).toNatClampNeg) := inb_of S9 ⟨by decide, by decide⟩
  obtain ⟨T10, h10, X10, e10, W10, st10⟩ := stB X8 hx hZ e8 Ar9 (j := (1 : Int32)) hin9 (g := (mkF m 52 #[.val (.ref a1), .val (.int (1 : Int32)), .val (.int i2)] [(.int ((i2 >>> ((8 : Int32) &&& 31)).toInt8.toInt32)), (.int (1 : Int32)), (.ref a1)])) rfl rfl (hb hby d_jdk_52_method_4_52)
  have v11 : Arv Z h10 a1 k3 .byte (4 : Int32) [(.int (nar .byte ((i2 >>> ((0 : Int32) &&& 31)).toInt8.toInt32))), (.int (nar .byte ((i2 >>> ((8 : Int32) &&& 31)).toInt8.toInt32))), (.int (0 : Int32)), (.int (0 : Int32))] (.int (0 : Int32)) := Arv.set Ar9 q9 S9 M9 Hh9 G9 (fits_nar_byte _) W10 1 rfl (Nat.le_of_ble_eq_true rfl)
  have N10 := Fr.snoc X10 N4 g_a1
  have O12 : Old Z n0 h10 := Old.wr O6 W10 g_a1
  have K13 : Keep h0 h10 [a1] := K7.wr W10 (Or.inl (List.mem_of_getElem? (i := 0) rfl))
  obtain ⟨fs, hr, hrun, hended, hW, hsame⟩ := X10.leave (v := none) (fun _ => rfl)
  refine ⟨_, _, pre0 _ ?_, hrun, hended, _, _, rfl, ?_, ⟨_, rfl⟩, hW, hsame.mono (by decide) (by decide)⟩
  · refine st1 _ ?_
    refine XS.ifYes X1.here hx rfl (pc0 := 3) (pc' := 28) rfl (hb hby d_jdk_52_method_4_3) rfl ((if0 _ _).trans (feq (by decide : ¬ ((1 : Int32) = (0 : Int32)))).2) (by decide) (by decide) ?_
    refine XS.iloadN X1.here hx rfl (hb hby d_jdk_52_method_4_28) rfl ?_
    refine XS.iconst X1.here hx rfl (hb hby d_jdk_52_method_4_29) ?_
    refine XS.ishl X1.here hx rfl (hb hby d_jdk_52_method_4_30) rfl ?_
    show Steps p.tables e below (T1.setTop (mkF m 31 #[.val (.ref a1), .val (.int (0 : Int32)), .val (.int i2)] [(.int (0 : Int32))])) _
    refine XS.istoreN X1.here hx rfl (hb hby d_jdk_52_method_4_31) rfl (l' := #[.val (.ref a1), .val (.int (0 : Int32)), .val (.int i2)]) rfl ?_
    refine XS.aloadN X1.here hx rfl (hb hby d_jdk_52_method_4_32) rfl rfl ?_
    refine XS.iloadN X1.here hx rfl (hb hby d_jdk_52_method_4_33) rfl ?_
    refine XS.iinc X1.here hx rfl (hb hby d_jdk_52_method_4_34) rfl (l' := #[.val (.ref a1), .val (.int (1 : Int32)), .val (.int i2)]) rfl ?_
    refine XS.iloadN X1.here hx rfl (hb hby d_jdk_52_method_4_37) rfl ?_
    refine st2 _ ?_
    refine XS.ishr X2.here hx rfl (hb hby d_jdk_52_method_4_41) rfl ?_
    refine XS.i2b X2.here hx rfl (hb hby d_jdk_52_method_4_42) rfl ?_
    refine st4 _ ?_
    refine XS.aloadN X4.here hx rfl (hb hby d_jdk_52_method_4_44) rfl rfl ?_
    refine XS.iloadN X4.here hx rfl (hb hby d_jdk_52_method_4_45) rfl ?_
    refine XS.iloadN X4.here hx rfl (hb hby d_jdk_52_method_4_46) rfl ?_
    refine st8 _ ?_
    refine XS.ishr X8.here hx rfl (hb hby d_jdk_52_method_4_50) rfl ?_
    refine XS.i2b X8.here hx rfl (hb hby d_jdk_52_method_4_51) rfl ?_
    refine st10 _ ?_
    exact X10.returnOut hx Bd.returns (hb hby d_jdk_52_method_4_53) hr
  · show Q_rc42_putChar Z a1 i2 k3 h0 n0 _ T10.heap _
    rw [e10]
    exact ⟨rfl, N10, K13, v11⟩
def Q_rc43_putChar (Z : State) (a1 : Addr) (i2 : Int32) (k3 : ClassId) (i4 : Int32) (i5 : Int32) (h0 : Heap) (n0 : Nat) (v : Option Value) (h : Heap) (L : List Loc) : Prop := v = none ∧ Fr n0 L ∧ Keep h0 h [a1] ∧ Arv Z h a1 k3 .byte (4 : Int32) [(.int i4), (.int i5), (.int (nar .byte ((i2 >>> ((0 : Int32) &&& 31)).toInt8.toInt32))), (.int (nar .byte ((i2 >>> ((8 : Int32) &&& 31)).toInt8.toInt32)))] (.int (0 : Int32))
set_option maxRecDepth 65536 in
set_option maxHeartbeats 40000000 in
theorem rc43_putChar (l : Launch) (Z : State) (a0 : Array Value) (hw : ∀ d ∈ tables_1, d.before a0 Z = true) (ws : List Jvm.Cond) (cs : Int32) (hS : SB Z cs) (a1 : Addr) (i2 : Int32) (k3 : ClassId) (i4 : Int32) (i5 : Int32) (h0 : Heap) (n0 : Nat) (O0 : Old Z n0 h0) (g_a1 : n0 ≤ a1) (V_a1 : Arv Z h0 a1 k3 .byte (4 : Int32) [(.int i4), (.int i5), (.int (0 : Int32)), (.int (0 : Int32))] (.int (0 : Int32))) :
    Met l my_8 jdk_52_method_4_code 3 none ws ({ frames := 0, cells := 0, slots := 0, locals := 0 } : Room) #[(.ref a1), (.int (1 : Int32)), (.int i2)] Z h0 (Q_rc43_putChar Z a1 i2 k3 i4 i5 h0 n0) := by
  refine MetFree.of_bodySF (plainFor_of_name pn_3) hisR ?_
  intro p e s m args below meth c s₁ Bd hml0 hP hK
  obtain ⟨rfl, hZ, hh⟩ := hP
  have hx := Bd.exec
  have hby := Bd.bytes
  have hml : c.maxLocals = 3 := hml0
  have hown : s.vm.findClass nString_1 = some m.cls := findClass_of_methodNamed Bd.named
  have hnm := (name_of_methodNamed Bd.named Bd.method).1
  have X0 : Stand p l e ({ frames := 0, cells := 0, slots := 0, locals := 0 } : Room) s m #[(.ref a1), (.int (1 : Int32)), (.int i2)] below meth c s₁ [] 0 0 := Stand.of_body Bd
  have e0 : s₁.heap = h0 := by rw [← hh, Bd.state]; rfl
  have N0 := Fr.nil n0
  obtain ⟨f₀, hf₀⟩ : ∃ f, f = entryFrame m #[(.ref a1), (.int (1 : Int32)), (.int i2)] 3 := ⟨_, rfl⟩
  rw [← hf₀]
  have pre0 : Go p e below s₁ f₀ s₁ (mkF m 0 #[.val (.ref a1), .val (.int (1 : Int32)), .val (.int i2)] []) := fun t k => castTop (hf₀.trans (ef_rc43_putChar m (a1) ((1 : Int32)) (i2))) k
  obtain ⟨T1, X1, e1, st1⟩ := getS2 X0 hx hZ hown (host := "") (Or.inl (wq hw 71 rfl)) Via.refl e0 (hS.2.2.1.ext O0.2) (g := (mkF m 0 #[.val (.ref a1), .val (.int (1 : Int32)), .val (.int i2)] [])) rfl (hb hby d_jdk_52_method_4_0)
  obtain ⟨T2, X2, e2, st2⟩ := getS2 X1 hx hZ hown (host := "") (Or.inl (wq hw 72 rfl)) Via.refl e1 (hS.2.2.2.1.ext O0.2) (g := (mkF m 38 #[.val (.ref a1), .val (.int (3 : Int32)), .val (.int i2)] [(.int i2), (.int (2 : Int32)), (.ref a1)])) rfl (hb hby d_jdk_52_method_4_38)
  obtain ⟨c3, Ar3, q3, S3, M3, Hh3, G3⟩ := (id V_a1)
  have hin3 : ¬ ((2 : Int32) < 0 ∨ c3.slots.size ≤ ((2 : Int32)).toNatClampNeg) := inb_of S3 ⟨by decide, by decide⟩
  obtain ⟨T4, h4, X4, e4, W4, st4⟩ := stB X2 hx hZ e2 Ar3 (j := (2 : Int32)) hin3 (g := (mkF m 43 #[.val (.ref a1), .val (.int (3 : Int32)), .val (.int i2)] [(.int ((i2 >>> ((0 : Int32) &&& 31)).toInt8.toInt32)), (.int (2 : Int32)), (.ref a1)])) rfl rfl (hb hby d_jdk_52_method_4_43)
  have v5 : Arv Z h4 a1 k3 .byte (4 : Int32) [(.int i4), (.int i5), (.int (nar .byte ((i2 >>> ((0 : Int32) &&& 31)).toInt8.toInt32))), (.int (0 : Int32))] (.int (0 : Int32)) := Arv.set Ar3 q3 S3 M3 Hh3 G3 (fits_nar_byte _) W4 2 rfl (Nat.le_of_ble_eq_true rfl)
  have N4 := Fr.snoc X4 N0 g_a1
  have O6 : Old Z n0 h4 := Old.wr O0 W4 g_a1
  have K7 : Keep h0 h4 [a1] := (Keep.refl h0 [a1]).wr W4 (Or.inl (List.mem_of_getElem? (i := 0) rfl))
  obtain ⟨T8, X8, e8, st8⟩ := getS2 X4 hx hZ hown (host := "") (Or.inl (wq hw 73 rfl)) Via.refl e4 (hS.2.2.2.2.ext O6.2) (g := (mkF m 47 #[.val (.ref a1), .val (.int (3 : Int32)), .val (.int i2)] [(.int i2), (.int (3 : Int32)), (.ref a1)])) rfl (hb hby d_jdk_52_method_4_47)
  obtain ⟨c9, Ar9, q9, S9, M9, Hh9, G9⟩ := (id v5)
  have hin9 : ¬ ((3 : Int32) < 0 ∨ c9.slots.size ≤ ((3 : Int32)).toNatClampNeg) := inb_of S9 ⟨by decide, by decide⟩
  obtain ⟨T10, h10, X10, e10, W10, st10⟩ := stB X8 hx hZ e8 Ar9 (j := (3 : Int32)) hin9 (g := (mkF m 52 #[.val (.ref a1), .val (.int (3 : Int32)), .val (.int i2)] [(.int ((i2 >>> ((8 : Int32) &&& 31)).toInt8.toInt32)), (.int (3 : Int32)), (.ref a1)])) rfl rfl (hb hby d_jdk_52_method_4_52)
  have v11 : Arv Z h10 a1 k3 .byte (4 : Int32) [(.int i4), (.int i5), (.int (nar .byte ((i2 >>> ((0 : Int32) &&& 31)).toInt8.toInt32))), (.int (nar .byte ((i2 >>> ((8 : Int32) &&& 31)).toInt8.toInt32)))] (.int (0 : Int32)) := Arv.set Ar9 q9 S9 M9 Hh9 G9 (fits_nar_byte _) W10 3 rfl (Nat.le_of_ble_eq_true rfl)
  have N10 := Fr.snoc X10 N4 g_a1
  have O12 : Old Z n0 h10 := Old.wr O6 W10 g_a1
  have K13 : Keep h0 h10 [a1] := K7.wr W10 (Or.inl (List.mem_of_getElem? (i := 0) rfl))
  obtain ⟨fs, hr, hrun, hended, hW, hsame⟩ := X10.leave (v := none) (fun _ => rfl)
  refine ⟨_, _, pre0 _ ?_, hrun, hended, _, _, rfl, ?_, ⟨_, rfl⟩, hW, hsame.mono (by decide) (by decide)⟩
  · refine st1 _ ?_
    refine XS.ifYes X1.here hx rfl (pc0 := 3) (pc' := 28) rfl (hb hby d_jdk_52_method_4_3) rfl ((if0 _ _).trans (feq (by decide : ¬ ((1 : Int32) = (0 : Int32)))).2) (by decide) (by decide) ?_
    refine XS.iloadN X1.here hx rfl (hb hby d_jdk_52_method_4_28) rfl ?_
    refine XS.iconst X1.here hx rfl (hb hby d_jdk_52_method_4_29) ?_
    refine XS.ishl X1.here hx rfl (hb hby d_jdk_52_method_4_30) rfl ?_
    show Steps p.tables e below (T1.setTop (mkF m 31 #[.val (.ref a1), .val (.int (1 : Int32)), .val (.int i2)] [(.int (2 : Int32))])) _
    refine XS.istoreN X1.here hx rfl (hb hby d_jdk_52_method_4_31) rfl (l' := #[.val (.ref a1), .val (.int (2 : Int32)), .val (.int i2)]) rfl ?_
    refine XS.aloadN X1.here hx rfl (hb hby d_jdk_52_method_4_32) rfl rfl ?_
    refine XS.iloadN X1.here hx rfl (hb hby d_jdk_52_method_4_33) rfl ?_
    refine XS.iinc X1.here hx rfl (hb hby d_jdk_52_method_4_34) rfl (l' := #[.val (.ref a1), .val (.int (3 : Int32)), .val (.int i2)]) rfl ?_
    refine XS.iloadN X1.here hx rfl (hb hby d_jdk_52_method_4_37) rfl ?_
    refine st2 _ ?_
    refine XS.ishr X2.here hx rfl (hb hby d_jdk_52_method_4_41) rfl ?_
    refine XS.i2b X2.here hx rfl (hb hby d_jdk_52_method_4_42) rfl ?_
    refine st4 _ ?_
    refine XS.aloadN X4.here hx rfl (hb hby d_jdk_52_method_4_44) rfl rfl ?_
    refine XS.iloadN X4.here hx rfl (hb hby d_jdk_52_method_4_45) rfl ?_
    refine XS.iloadN X4.here hx rfl (hb hby d_jdk_52_method_4_46) rfl ?_
    refine st8 _ ?_
    refine XS.ishr X8.here hx rfl (hb hby d_jdk_52_method_4_50) rfl ?_
    refine XS.i2b X8.here hx rfl (hb hby d_jdk_52_method_4_51) rfl ?_
    refine st10 _ ?_
    exact X10.returnOut hx Bd.returns (hb hby d_jdk_52_method_4_53) hr
  · show Q_rc43_putChar Z a1 i2 k3 i4 i5 h0 n0 _ T10.heap _
    rw [e10]
    exact ⟨rfl, N10, K13, v11⟩
def Q_rc39_toBytes (Z : State) (a1 : Addr) (k2 : ClassId) (i3 : Int32) (i4 : Int32) (h0 : Heap) (n0 : Nat) (v : Option Value) (h : Heap) (L : List Loc) : Prop := ∃ (x1_b2 : Addr), ∃ (x1_k2 : ClassId), v = some (.ref x1_b2) ∧ Fr n0 L ∧ Keep h0 h [] ∧ h0.size ≤ x1_b2 ∧ Arv Z h x1_b2 x1_k2 .byte (4 : Int32) [(.int (nar .byte ((i3 >>> ((0 : Int32) &&& 31)).toInt8.toInt32))), (.int (nar .byte ((i3 >>> ((8 : Int32) &&& 31)).toInt8.toInt32))), (.int (nar .byte ((i4 >>> ((0 : Int32) &&& 31)).toInt8.toInt32))), (.int (nar .byte ((i4 >>> ((8 : Int32) &&& 31)).toInt8.toInt32)))] (.int (0 : Int32))
set_option maxRecDepth 65536 in
set_option maxHeartbeats 40000000 in
theorem rc39_toBytes (l : Launch) (Z : State) (a0 : Array Value) (hw : ∀ d ∈ tables_1, d.before a0 Z = true) (ws : List Jvm.Cond) (cs : Int32) (hS : SB Z cs) (a1 : Addr) (k2 : ClassId) (i3 : Int32) (i4 : Int32) (h0 : Heap) (n0 : Nat) (O0 : Old Z n0 h0) (g_a1 : n0 ≤ a1) (V_a1 : Arv Z h0 a1 k2 .char (2 : Int32) [(.int i3), (.int i4)] (.int (0 : Int32))) :
    Met l my_9 jdk_52_method_14_code 5 (some (.array .byte)) ws ({ frames := 2, cells := 1, slots := 4, locals := 24 } : Room) #[(.ref a1), (.int (0 : Int32)), (.int (2 : Int32))] Z h0 (Q_rc39_toBytes Z a1 k2 i3 i4 h0 n0) := by
  refine MetFree.of_bodySF (plainFor_of_name pn_3) hisR ?_
  intro p e s m args below meth c s₁ Bd hml0 hP hK
  obtain ⟨rfl, hZ, hh⟩ := hP
  have hx := Bd.exec
  have hby := Bd.bytes
  have hml : c.maxLocals = 5 := hml0
  have hown : s.vm.findClass nString_1 = some m.cls := findClass_of_methodNamed Bd.named
  have hnm := (name_of_methodNamed Bd.named Bd.method).1
  have X0 : Stand p l e ({ frames := 2, cells := 1, slots := 4, locals := 24 } : Room) s m #[(.ref a1), (.int (0 : Int32)), (.int (2 : Int32))] below meth c s₁ [] 0 0 := Stand.of_body Bd
  have e0 : s₁.heap = h0 := by rw [← hh, Bd.state]; rfl
  have N0 := Fr.nil n0
  obtain ⟨f₀, hf₀⟩ : ∃ f, f = entryFrame m #[(.ref a1), (.int (0 : Int32)), (.int (2 : Int32))] 5 := ⟨_, rfl⟩
  rw [← hf₀]
  have pre0 : Go p e below s₁ f₀ s₁ (mkF m 0 #[.val (.ref a1), .val (.int (0 : Int32)), .val (.int (2 : Int32)), .unset, .unset] []) := fun t k => castTop (hf₀.trans (ef_rc39_toBytes m (a1) ((0 : Int32)) ((2 : Int32)))) k
  obtain ⟨_, _, ⟨T1, L1, k1, n1⟩, -, X1, ⟨Lc1, hQ1, l1, y1, z1⟩, st1⟩ := Jvm.LawKit.callS X0 hx (y := my_7) hown (mvT hZ (wq hw 61 rfl)) (mvT hZ (wq hw 62 rfl)) (mvT hZ (wq hw 39 rfl)) (mvT hZ (wq hw 63 rfl)) (by decide) (backOf (W := 0) (rc40_newBytesFor l Z a0 hw [] cs hS  h0 n0 O0 ) hZ (wq hw 63 rfl) (wq hw 39 rfl) (by decide) (by decide)) (g := (mkF m 1 #[.val (.ref a1), .val (.int (0 : Int32)), .val (.int (2 : Int32)), .unset, .unset] [(.int (2 : Int32))])) rfl (by rw [hml]; rfl) (argsL := [(.int (2 : Int32))]) (rest := []) (lenOf pd_7 rfl) rfl (by show 2 * 0 + _ ≤ _; exact Nat.le_of_eq rfl) (hb hby d_jdk_52_method_14_1) (fun _ _ => ⟨rfl, e0, (by decide : 0 + 1 ≤ _), (by decide : 0 + 4 ≤ _)⟩)
  dsimp only [Pt.U, Pt.locs, Pt.cells, Pt.slots] at X1 l1 y1 z1 st1 hQ1
  have X1 := own_to X1 l1 y1 z1
  obtain ⟨x1_b2, x1_k2, rfl, N1q, K1, sz1_b2, q1_0⟩ := hQ1
  have N1 := Fr.app N0 N1q
  have g2 : n0 ≤ x1_b2 := Nat.le_trans (Nat.le_of_eq O0.1.symm) (Nat.le_trans O0.2.1 sz1_b2)
  have s3 : h0.size ≤ x1_b2 := Nat.le_trans (Keep.refl h0 []).1 sz1_b2
  have ne4 : a1 ≠ x1_b2 := Nat.ne_of_lt (Nat.lt_of_lt_of_le V_a1.lt sz1_b2)
  have O5 : Old Z n0 T1.heap := Old.keep O0 K1 all0
  have K6 : Keep h0 T1.heap [] := (Keep.refl h0 []).trans K1 all0
  have t7 : Arv Z T1.heap a1 k2 .char (2 : Int32) [(.int i3), (.int i4)] (.int (0 : Int32)) := (V_a1.keep K1 nin0)
  obtain ⟨c8, Ar8, q8, S8, M8, Hh8, G8⟩ := (id t7)
  have hin8 : ¬ ((0 : Int32) < 0 ∨ c8.slots.size ≤ ((0 : Int32)).toNatClampNeg) := inb_of S8 ⟨by decide, by decide⟩
  have hat8 : c8.slots[((0 : Int32)).toNatClampNeg]? = some (.int i3) := Hh8.at hin8 rfl
  obtain ⟨_, _, ⟨T9, L9, k9, n9⟩, -, X9, ⟨Lc9, hQ9, l9, y9, z9⟩, st9⟩ := Jvm.LawKit.callS X1 hx (y := my_8) hown (mvT hZ (wq hw 68 rfl)) (mvT hZ (wq hw 69 rfl)) (mvT hZ (wq hw 39 rfl)) (mvT hZ (wq hw 70 rfl)) (by decide) (backOf (W := 0) (rc42_putChar l Z a0 hw [] cs hS x1_b2 i3 x1_k2 T1.heap n0 O5 g2 q1_0) hZ (wq hw 70 rfl) (wq hw 39 rfl) (by decide) (by decide)) (g := (mkF m 20 #[.val (.ref a1), .val (.int (0 : Int32)), .val (.int (2 : Int32)), .val (.ref x1_b2), .val (.int (0 : Int32))] [(.int i3), (.int (0 : Int32)), (.ref x1_b2)])) rfl (by rw [hml]; rfl) (argsL := [(.ref x1_b2), (.int (0 : Int32)), (.int i3)]) (rest := []) (lenOf pd_8 rfl) rfl (by show 2 * 0 + _ ≤ _; exact Nat.le_of_eq rfl) (hb hby d_jdk_52_method_14_20) (fun _ _ => ⟨rfl, rfl, (by decide : 1 + 0 ≤ _), (by decide : 4 + 0 ≤ _)⟩)
  dsimp only [Pt.U, Pt.locs, Pt.cells, Pt.slots] at X9 l9 y9 z9 st9 hQ9
  have X9 := own_to X9 l9 y9 z9
  obtain ⟨rfl, N9q, K9, q9_0⟩ := hQ9
  have N9 := Fr.app N1 N9q
  have O10 : Old Z n0 T9.heap := Old.keep O5 K9 (allS g2 all0)
  have K11 : Keep h0 T9.heap [] := K6.trans K9 (allS (Or.inr s3) all0)
  have t12 : Arv Z T9.heap a1 k2 .char (2 : Int32) [(.int i3), (.int i4)] (.int (0 : Int32)) := (t7.keep K9 (ninS ne4 nin0))
  obtain ⟨c13, Ar13, q13, S13, M13, Hh13, G13⟩ := (id t12)
  have hin13 : ¬ ((1 : Int32) < 0 ∨ c13.slots.size ≤ ((1 : Int32)).toNatClampNeg) := inb_of S13 ⟨by decide, by decide⟩
  have hat13 : c13.slots[((1 : Int32)).toNatClampNeg]? = some (.int i4) := Hh13.at hin13 rfl
  obtain ⟨_, _, ⟨T14, L14, k14, n14⟩, -, X14, ⟨Lc14, hQ14, l14, y14, z14⟩, st14⟩ := Jvm.LawKit.callS X9 hx (y := my_8) hown (mvT hZ (wq hw 68 rfl)) (mvT hZ (wq hw 69 rfl)) (mvT hZ (wq hw 39 rfl)) (mvT hZ (wq hw 70 rfl)) (by decide) (backOf (W := 0) (rc43_putChar l Z a0 hw [] cs hS x1_b2 i4 x1_k2 (nar .byte ((i3 >>> ((0 : Int32) &&& 31)).toInt8.toInt32)) (nar .byte ((i3 >>> ((8 : Int32) &&& 31)).toInt8.toInt32)) T9.heap n0 O10 g2 q9_0) hZ (wq hw 70 rfl) (wq hw 39 rfl) (by decide) (by decide)) (g := (mkF m 20 #[.val (.ref a1), .val (.int (1 : Int32)), .val (.int (2 : Int32)), .val (.ref x1_b2), .val (.int (1 : Int32))] [(.int i4), (.int (1 : Int32)), (.ref x1_b2)])) rfl (by rw [hml]; rfl) (argsL := [(.ref x1_b2), (.int (1 : Int32)), (.int i4)]) (rest := []) (lenOf pd_8 rfl) rfl (by show 2 * 0 + _ ≤ _; exact Nat.le_of_eq rfl) (hb hby d_jdk_52_method_14_20) (fun _ _ => ⟨rfl, rfl, (by decide : 1 + 0 ≤ _), (by decide : 4 + 0 ≤ _)⟩)
  dsimp only [Pt.U, Pt.locs, Pt.cells, Pt.slots] at X14 l14 y14 z14 st14 hQ14
  have X14 := own_to X14 l14 y14 z14
  obtain ⟨rfl, N14q, K14, q14_0⟩ := hQ14
  have N14 := Fr.app N9 N14q
  have O15 : Old Z n0 T14.heap := Old.keep O10 K14 (allS g2 all0)
  have K16 : Keep h0 T14.heap [] := K11.trans K14 (allS (Or.inr s3) all0)
  obtain ⟨fs, hr, hrun, hended, hW, hsame⟩ := X14.leave (v := (some (.ref x1_b2))) (fun h => by rw [Bd.returns] at h; cases h)
  refine ⟨_, _, pre0 _ ?_, hrun, hended, _, _, rfl, ?_, ⟨_, rfl⟩, hW, hsame.mono (by decide) (by decide)⟩
  · refine XS.iloadN X0.here hx rfl (hb hby d_jdk_52_method_14_0) rfl ?_
    refine st1 _ ?_
    refine XS.astoreN X1.here hx rfl (hb hby d_jdk_52_method_14_4) rfl rfl (l' := #[.val (.ref a1), .val (.int (0 : Int32)), .val (.int (2 : Int32)), .val (.ref x1_b2), .unset]) rfl ?_
    refine XS.iconst X1.here hx rfl (hb hby d_jdk_52_method_14_5) ?_
    refine XS.istore X1.here hx rfl (hb hby d_jdk_52_method_14_6) rfl (l' := #[.val (.ref a1), .val (.int (0 : Int32)), .val (.int (2 : Int32)), .val (.ref x1_b2), .val (.int (0 : Int32))]) rfl ?_
    refine XS.iload X1.here hx rfl (hb hby d_jdk_52_method_14_8) rfl ?_
    refine XS.iloadN X1.here hx rfl (hb hby d_jdk_52_method_14_10) rfl ?_
    refine XS.icmpNo X1.here hx rfl (hb hby d_jdk_52_method_14_11) rfl (tlt (by decide : (0 : Int32) < (2 : Int32))).2.1 ?_
    refine XS.aloadN X1.here hx rfl (hb hby d_jdk_52_method_14_14) rfl rfl ?_
    refine XS.iload X1.here hx rfl (hb hby d_jdk_52_method_14_15) rfl ?_
    refine XS.aloadN X1.here hx rfl (hb hby d_jdk_52_method_14_17) rfl rfl ?_
    refine XS.iloadN X1.here hx rfl (hb hby d_jdk_52_method_14_18) rfl ?_
    refine X1.caload hx (j := (0 : Int32)) (v := (.int i3)) Ar8.1 (State.isArrayOf_alike hZ.alike Ar8.2.1) Ar8.2.2 hin8 hat8 (g := (mkF m 19 #[.val (.ref a1), .val (.int (0 : Int32)), .val (.int (2 : Int32)), .val (.ref x1_b2), .val (.int (0 : Int32))] [(.int (0 : Int32)), (.ref a1), (.int (0 : Int32)), (.ref x1_b2)])) rfl rfl (hb hby d_jdk_52_method_14_19) _ ?_
    refine st9 _ ?_
    refine XS.iinc X9.here hx rfl (hb hby d_jdk_52_method_14_23) rfl (l' := #[.val (.ref a1), .val (.int (1 : Int32)), .val (.int (2 : Int32)), .val (.ref x1_b2), .val (.int (0 : Int32))]) rfl ?_
    refine XS.iinc X9.here hx rfl (hb hby d_jdk_52_method_14_26) rfl (l' := #[.val (.ref a1), .val (.int (1 : Int32)), .val (.int (2 : Int32)), .val (.ref x1_b2), .val (.int (1 : Int32))]) rfl ?_
    refine XS.goto X9.here hx rfl (pc0 := 29) (pc' := 8) rfl (hb hby d_jdk_52_method_14_29) (by decide) (by decide) ?_
    refine XS.iload X9.here hx rfl (hb hby d_jdk_52_method_14_8) rfl ?_
    refine XS.iloadN X9.here hx rfl (hb hby d_jdk_52_method_14_10) rfl ?_
    refine XS.icmpNo X9.here hx rfl (hb hby d_jdk_52_method_14_11) rfl (tlt (by decide : (1 : Int32) < (2 : Int32))).2.1 ?_
    refine XS.aloadN X9.here hx rfl (hb hby d_jdk_52_method_14_14) rfl rfl ?_
    refine XS.iload X9.here hx rfl (hb hby d_jdk_52_method_14_15) rfl ?_
    refine XS.aloadN X9.here hx rfl (hb hby d_jdk_52_method_14_17) rfl rfl ?_
    refine XS.iloadN X9.here hx rfl (hb hby d_jdk_52_method_14_18) rfl ?_
    refine X9.caload hx (j := (1 : Int32)) (v := (.int i4)) Ar13.1 (State.isArrayOf_alike hZ.alike Ar13.2.1) Ar13.2.2 hin13 hat13 (g := (mkF m 19 #[.val (.ref a1), .val (.int (1 : Int32)), .val (.int (2 : Int32)), .val (.ref x1_b2), .val (.int (1 : Int32))] [(.int (1 : Int32)), (.ref a1), (.int (1 : Int32)), (.ref x1_b2)])) rfl rfl (hb hby d_jdk_52_method_14_19) _ ?_
    refine st14 _ ?_
    refine XS.iinc X14.here hx rfl (hb hby d_jdk_52_method_14_23) rfl (l' := #[.val (.ref a1), .val (.int (2 : Int32)), .val (.int (2 : Int32)), .val (.ref x1_b2), .val (.int (1 : Int32))]) rfl ?_
    refine XS.iinc X14.here hx rfl (hb hby d_jdk_52_method_14_26) rfl (l' := #[.val (.ref a1), .val (.int (2 : Int32)), .val (.int (2 : Int32)), .val (.ref x1_b2), .val (.int (2 : Int32))]) rfl ?_
    refine XS.goto X14.here hx rfl (pc0 := 29) (pc' := 8) rfl (hb hby d_jdk_52_method_14_29) (by decide) (by decide) ?_
    refine XS.iload X14.here hx rfl (hb hby d_jdk_52_method_14_8) rfl ?_
    refine XS.iloadN X14.here hx rfl (hb hby d_jdk_52_method_14_10) rfl ?_
    refine XS.icmpYes X14.here hx rfl (pc0 := 11) (pc' := 32) rfl (hb hby d_jdk_52_method_14_11) rfl (flt (by decide : ¬ ((2 : Int32) < (2 : Int32)))).2.1 (by decide) (by decide) ?_
    refine XS.aloadN X14.here hx rfl (hb hby d_jdk_52_method_14_32) rfl rfl ?_
    exact retOut X14 hx Bd.returns rfl (Or.inr (Or.inr (Or.inr (Or.inr ⟨rfl, rfl, rfl⟩)))) (hb hby d_jdk_52_method_14_33) hr
  · show Q_rc39_toBytes Z a1 k2 i3 i4 h0 n0 _ T14.heap _
    exact ⟨x1_b2, x1_k2, rfl, N14, K16, s3, q14_0⟩
def Q_rc44_getChar (Z : State) (a1 : Addr) (k2 : ClassId) (i3 : Int32) (i4 : Int32) (i5 : Int32) (i6 : Int32) (h0 : Heap) (n0 : Nat) (v : Option Value) (h : Heap) (L : List Loc) : Prop := v = some (.int (nar .char ((((i3 &&& (255 : Int32)) <<< ((0 : Int32) &&& 31)) ||| ((i4 &&& (255 : Int32)) <<< ((8 : Int32) &&& 31))).toUInt32.toUInt16.toUInt32.toInt32))) ∧ Fr n0 L ∧ h = h0
set_option maxRecDepth 65536 in
set_option maxHeartbeats 40000000 in
theorem rc44_getChar (l : Launch) (Z : State) (a0 : Array Value) (hw : ∀ d ∈ tables_1, d.before a0 Z = true) (ws : List Jvm.Cond) (cs : Int32) (hS : SB Z cs) (a1 : Addr) (k2 : ClassId) (i3 : Int32) (i4 : Int32) (i5 : Int32) (i6 : Int32) (h0 : Heap) (n0 : Nat) (O0 : Old Z n0 h0) (g_a1 : n0 ≤ a1) (V_a1 : Arv Z h0 a1 k2 .byte (4 : Int32) [(.int i3), (.int i4), (.int i5), (.int i6)] (.int (0 : Int32))) :
    Met l my_10 jdk_52_method_5_code 2 (some .char) ws ({ frames := 0, cells := 0, slots := 0, locals := 0 } : Room) #[(.ref a1), (.int (0 : Int32))] Z h0 (Q_rc44_getChar Z a1 k2 i3 i4 i5 i6 h0 n0) := by
  refine MetFree.of_bodySF (plainFor_of_name pn_3) hisR ?_
  intro p e s m args below meth c s₁ Bd hml0 hP hK
  obtain ⟨rfl, hZ, hh⟩ := hP
  have hx := Bd.exec
  have hby := Bd.bytes
  have hml : c.maxLocals = 2 := hml0
  have hown : s.vm.findClass nString_1 = some m.cls := findClass_of_methodNamed Bd.named
  have hnm := (name_of_methodNamed Bd.named Bd.method).1
  have X0 : Stand p l e ({ frames := 0, cells := 0, slots := 0, locals := 0 } : Room) s m #[(.ref a1), (.int (0 : Int32))] below meth c s₁ [] 0 0 := Stand.of_body Bd
  have e0 : s₁.heap = h0 := by rw [← hh, Bd.state]; rfl
  have N0 := Fr.nil n0
  obtain ⟨f₀, hf₀⟩ : ∃ f, f = entryFrame m #[(.ref a1), (.int (0 : Int32))] 2 := ⟨_, rfl⟩
  rw [← hf₀]
  have pre0 : Go p e below s₁ f₀ s₁ (mkF m 0 #[.val (.ref a1), .val (.int (0 : Int32))] []) := fun t k => castTop (hf₀.trans (ef_rc44_getChar m (a1) ((0 : Int32)))) k
  obtain ⟨T1, X1, e1, st1⟩ := getS2 X0 hx hZ hown (host := "") (Or.inl (wq hw 71 rfl)) Via.refl e0 (hS.2.2.1.ext O0.2) (g := (mkF m 0 #[.val (.ref a1), .val (.int (0 : Int32))] [])) rfl (hb hby d_jdk_52_method_5_0)
  obtain ⟨c2, Ar2, q2, S2, M2, Hh2, G2⟩ := (id V_a1)
  have hin2 : ¬ ((0 : Int32) < 0 ∨ c2.slots.size ≤ ((0 : Int32)).toNatClampNeg) := inb_of S2 ⟨by decide, by decide⟩
  have hat2 : c2.slots[((0 : Int32)).toNatClampNeg]? = some (.int i3) := Hh2.at hin2 rfl
  obtain ⟨T3, X3, e3, st3⟩ := getS2 X1 hx hZ hown (host := "") (Or.inl (wq hw 72 rfl)) Via.refl e1 (hS.2.2.2.1.ext O0.2) (g := (mkF m 42 #[.val (.ref a1), .val (.int (1 : Int32))] [(.int (i3 &&& (255 : Int32)))])) rfl (hb hby d_jdk_52_method_5_42)
  obtain ⟨c4, Ar4, q4, S4, M4, Hh4, G4⟩ := (id V_a1)
  have hin4 : ¬ ((1 : Int32) < 0 ∨ c4.slots.size ≤ ((1 : Int32)).toNatClampNeg) := inb_of S4 ⟨by decide, by decide⟩
  have hat4 : c4.slots[((1 : Int32)).toNatClampNeg]? = some (.int i4) := Hh4.at hin4 rfl
  obtain ⟨T5, X5, e5, st5⟩ := getS2 X3 hx hZ hown (host := "") (Or.inl (wq hw 73 rfl)) Via.refl e3 (hS.2.2.2.2.ext O0.2) (g := (mkF m 53 #[.val (.ref a1), .val (.int (1 : Int32))] [(.int (i4 &&& (255 : Int32))), (.int ((i3 &&& (255 : Int32)) <<< ((0 : Int32) &&& 31)))])) rfl (hb hby d_jdk_52_method_5_53)
  obtain ⟨fs, hr, hrun, hended, hW, hsame⟩ := X5.leave (v := (some (.int (nar .char ((((i3 &&& (255 : Int32)) <<< ((0 : Int32) &&& 31)) ||| ((i4 &&& (255 : Int32)) <<< ((8 : Int32) &&& 31))).toUInt32.toUInt16.toUInt32.toInt32))))) (fun h => by rw [Bd.returns] at h; cases h)
  refine ⟨_, _, pre0 _ ?_, hrun, hended, _, _, rfl, ?_, ⟨_, rfl⟩, hW, hsame.mono (by decide) (by decide)⟩
  · refine st1 _ ?_
    refine XS.ifYes X1.here hx rfl (pc0 := 3) (pc' := 28) rfl (hb hby d_jdk_52_method_5_3) rfl ((if0 _ _).trans (feq (by decide : ¬ ((1 : Int32) = (0 : Int32)))).2) (by decide) (by decide) ?_
    refine XS.iloadN X1.here hx rfl (hb hby d_jdk_52_method_5_28) rfl ?_
    refine XS.iconst X1.here hx rfl (hb hby d_jdk_52_method_5_29) ?_
    refine XS.ishl X1.here hx rfl (hb hby d_jdk_52_method_5_30) rfl ?_
    show Steps p.tables e below (T1.setTop (mkF m 31 #[.val (.ref a1), .val (.int (0 : Int32))] [(.int (0 : Int32))])) _
    refine XS.istoreN X1.here hx rfl (hb hby d_jdk_52_method_5_31) rfl (l' := #[.val (.ref a1), .val (.int (0 : Int32))]) rfl ?_
    refine XS.aloadN X1.here hx rfl (hb hby d_jdk_52_method_5_32) rfl rfl ?_
    refine XS.iloadN X1.here hx rfl (hb hby d_jdk_52_method_5_33) rfl ?_
    refine XS.iinc X1.here hx rfl (hb hby d_jdk_52_method_5_34) rfl (l' := #[.val (.ref a1), .val (.int (1 : Int32))]) rfl ?_
    refine X1.baloadBytes hx (j := (0 : Int32)) (v := (.int i3)) (by rw [e1]; exact Ar2.1) (State.isArrayOf_alike hZ.alike Ar2.2.1) Ar2.2.2 hin2 hat2 (g := (mkF m 37 #[.val (.ref a1), .val (.int (1 : Int32))] [(.int (0 : Int32)), (.ref a1)])) rfl rfl (hb hby d_jdk_52_method_5_37) _ ?_
    refine XS.sipush X1.here hx rfl (hb hby d_jdk_52_method_5_38) ?_
    refine XS.iand X1.here hx rfl (hb hby d_jdk_52_method_5_41) rfl ?_
    refine st3 _ ?_
    refine XS.ishl X3.here hx rfl (hb hby d_jdk_52_method_5_45) rfl ?_
    refine XS.aloadN X3.here hx rfl (hb hby d_jdk_52_method_5_46) rfl rfl ?_
    refine XS.iloadN X3.here hx rfl (hb hby d_jdk_52_method_5_47) rfl ?_
    refine X3.baloadBytes hx (j := (1 : Int32)) (v := (.int i4)) (by rw [e3]; exact Ar4.1) (State.isArrayOf_alike hZ.alike Ar4.2.1) Ar4.2.2 hin4 hat4 (g := (mkF m 48 #[.val (.ref a1), .val (.int (1 : Int32))] [(.int (1 : Int32)), (.ref a1), (.int ((i3 &&& (255 : Int32)) <<< ((0 : Int32) &&& 31)))])) rfl rfl (hb hby d_jdk_52_method_5_48) _ ?_
    refine XS.sipush X3.here hx rfl (hb hby d_jdk_52_method_5_49) ?_
    refine XS.iand X3.here hx rfl (hb hby d_jdk_52_method_5_52) rfl ?_
    refine st5 _ ?_
    refine XS.ishl X5.here hx rfl (hb hby d_jdk_52_method_5_56) rfl ?_
    refine XS.ior X5.here hx rfl (hb hby d_jdk_52_method_5_57) rfl ?_
    refine XS.i2c X5.here hx rfl (hb hby d_jdk_52_method_5_58) rfl ?_
    exact retN X5 hx (t := .char) Bd.returns (by simp) (hb hby d_jdk_52_method_5_59) hr
  · show Q_rc44_getChar Z a1 k2 i3 i4 i5 i6 h0 n0 _ T5.heap _
    rw [e5]
    exact ⟨rfl, N0, rfl⟩
def Q_rc37_compress (Z : State) (a1 : Addr) (k2 : ClassId) (i3 : Int32) (i4 : Int32) (h0 : Heap) (n0 : Nat) (v : Option Value) (h : Heap) (L : List Loc) : Prop := ∃ (x10_x1_b2 : Addr), ∃ (x10_x1_k2 : ClassId), v = some (.ref x10_x1_b2) ∧ Fr n0 L ∧ Keep h0 h [] ∧ h0.size ≤ x10_x1_b2 ∧ Arv Z h x10_x1_b2 x10_x1_k2 .byte (4 : Int32) [(.int (nar .byte ((i3 >>> ((0 : Int32) &&& 31)).toInt8.toInt32))), (.int (nar .byte ((i3 >>> ((8 : Int32) &&& 31)).toInt8.toInt32))), (.int (nar .byte ((i4 >>> ((0 : Int32) &&& 31)).toInt8.toInt32))), (.int (nar .byte ((i4 >>> ((8 : Int32) &&& 31)).toInt8.toInt32)))] (.int (0 : Int32))
set_option maxRecDepth 65536 in
set_option maxHeartbeats 40000000 in
theorem rc37_compress (l : Launch) (Z : State) (a0 : Array Value) (hw : ∀ d ∈ tables_1, d.before a0 Z = true) (ws : List Jvm.Cond) (cs : Int32) (hS : SB Z cs) (a1 : Addr) (k2 : ClassId) (i3 : Int32) (i4 : Int32) (h0 : Heap) (n0 : Nat) (O0 : Old Z n0 h0) (g_a1 : n0 ≤ a1) (V_a1 : Arv Z h0 a1 k2 .char (2 : Int32) [(.int i3), (.int i4)] (.int (0 : Int32))) (hy0 : nar .char i3 = i3) (hy2 : (255 : Int32) < i3) :
    Met l my_11 jdk_52_method_16_code 6 (some (.array .byte)) ws ({ frames := 3, cells := 2, slots := 6, locals := 40 } : Room) #[(.ref a1), (.int (0 : Int32)), (.int (2 : Int32))] Z h0 (Q_rc37_compress Z a1 k2 i3 i4 h0 n0) := by
  refine MetFree.of_bodySF (plainFor_of_name pn_3) hisR ?_
  intro p e s m args below meth c s₁ Bd hml0 hP hK
  obtain ⟨rfl, hZ, hh⟩ := hP
  have hx := Bd.exec
  have hby := Bd.bytes
  have hml : c.maxLocals = 6 := hml0
  have hown : s.vm.findClass nString_1 = some m.cls := findClass_of_methodNamed Bd.named
  have hnm := (name_of_methodNamed Bd.named Bd.method).1
  have X0 : Stand p l e ({ frames := 3, cells := 2, slots := 6, locals := 40 } : Room) s m #[(.ref a1), (.int (0 : Int32)), (.int (2 : Int32))] below meth c s₁ [] 0 0 := Stand.of_body Bd
  have e0 : s₁.heap = h0 := by rw [← hh, Bd.state]; rfl
  have N0 := Fr.nil n0
  obtain ⟨f₀, hf₀⟩ : ∃ f, f = entryFrame m #[(.ref a1), (.int (0 : Int32)), (.int (2 : Int32))] 6 := ⟨_, rfl⟩
  rw [← hf₀]
  have pre0 : Go p e below s₁ f₀ s₁ (mkF m 0 #[.val (.ref a1), .val (.int (0 : Int32)), .val (.int (2 : Int32)), .unset, .unset, .unset] []) := fun t k => castTop (hf₀.trans (ef_rc37_compress m (a1) ((0 : Int32)) ((2 : Int32)))) k
  obtain ⟨T1, h1, k1, X1, e1, E1, A1, st1⟩ := newP X0 hx hZ (wq hw 20 rfl) e0 (g := (mkF m 1 #[.val (.ref a1), .val (.int (0 : Int32)), .val (.int (2 : Int32)), .unset, .unset, .unset] [(.int (2 : Int32))])) rfl (hb hby d_jdk_52_method_16_1) rfl (by decide) (cap := 2) (by decide) (by decide) (by decide) (by decide)
  obtain ⟨b1, gb1⟩ : ∃ z, z = h0.size := ⟨_, rfl⟩
  rw [← gb1] at A1 st1
  have ne2 : a1 ≠ b1 := Nat.ne_of_lt (Nat.lt_of_lt_of_le V_a1.lt (Nat.le_of_eq gb1.symm))
  have g3 : n0 ≤ b1 := Nat.le_trans (Nat.le_of_eq O0.1.symm) (Nat.le_trans O0.2.1 (Nat.le_of_eq gb1.symm))
  have s4 : h0.size ≤ b1 := Nat.le_trans (Keep.refl h0 []).1 (Nat.le_of_eq gb1.symm)
  have O5 : Old Z n0 h1 := Old.ext O0 E1
  have K6 : Keep h0 h1 [] := (Keep.refl h0 []).ext E1
  have v7 : Arv Z h1 b1 k1 .byte (2 : Int32) [(.int (0 : Int32)), (.int (0 : Int32))] (.int (0 : Int32)) := (Arv.new A1 (by decide)).pad (pad_rep [] (.int (0 : Int32)) 2)
  have t8 : Arv Z h1 a1 k2 .char (2 : Int32) [(.int i3), (.int i4)] (.int (0 : Int32)) := (V_a1.ext E1)
  obtain ⟨_, _, ⟨T9, L9, k9, n9⟩, -, X9, ⟨Lc9, hQ9, l9, y9, z9⟩, st9⟩ := Jvm.LawKit.callS X1 hx (y := my_5) hown (mvT hZ (wq hw 41 rfl)) (mvT hZ (wq hw 42 rfl)) (mvT hZ (wq hw 39 rfl)) (mvT hZ (wq hw 43 rfl)) (by decide) (backOf (W := 0) (rc38_compress l Z a0 hw [] cs hS a1 b1 k2 i3 i4 h1 n0 O5 g_a1 g3 t8 hy2) hZ (wq hw 43 rfl) (wq hw 39 rfl) (by decide) (by decide)) (g := (mkF m 9 #[.val (.ref a1), .val (.int (0 : Int32)), .val (.int (2 : Int32)), .val (.ref b1), .unset, .unset] [(.int (2 : Int32)), (.int (0 : Int32)), (.ref b1), (.int (0 : Int32)), (.ref a1)])) rfl (by rw [hml]; rfl) (argsL := [(.ref a1), (.int (0 : Int32)), (.ref b1), (.int (0 : Int32)), (.int (2 : Int32))]) (rest := []) (lenOf pd_5 rfl) rfl (by show 2 * 0 + _ ≤ _; exact Nat.le_of_eq rfl) (hb hby d_jdk_52_method_16_9) (fun _ _ => ⟨rfl, e1, (by decide : 1 + 0 ≤ _), (by decide : 2 + 0 ≤ _)⟩)
  dsimp only [Pt.U, Pt.locs, Pt.cells, Pt.slots] at X9 l9 y9 z9 st9 hQ9
  have X9 := own_to X9 l9 y9 z9
  obtain ⟨rfl, N9q, e9⟩ := hQ9
  have N9 := Fr.app N0 N9q
  obtain ⟨_, _, ⟨T10, L10, k10, n10⟩, -, X10, ⟨Lc10, hQ10, l10, y10, z10⟩, st10⟩ := Jvm.LawKit.callS X9 hx (y := my_9) hown (mvT hZ (wq hw 58 rfl)) (mvT hZ (wq hw 59 rfl)) (mvT hZ (wq hw 39 rfl)) (mvT hZ (wq hw 60 rfl)) (by decide) (backOf (W := 0) (rc39_toBytes l Z a0 hw [] cs hS a1 k2 i3 i4 h1 n0 O5 g_a1 t8) hZ (wq hw 60 rfl) (wq hw 39 rfl) (by decide) (by decide)) (g := (mkF m 23 #[.val (.ref a1), .val (.int (0 : Int32)), .val (.int (2 : Int32)), .val (.ref b1), .val (.int (0 : Int32)), .unset] [(.int (2 : Int32)), (.int (0 : Int32)), (.ref a1)])) rfl (by rw [hml]; rfl) (argsL := [(.ref a1), (.int (0 : Int32)), (.int (2 : Int32))]) (rest := []) (lenOf pd_9 rfl) rfl (by show 2 * 0 + _ ≤ _; exact Nat.le_of_eq rfl) (hb hby d_jdk_52_method_16_23) (fun _ _ => ⟨rfl, e9, (by decide : 1 + 1 ≤ _), (by decide : 2 + 4 ≤ _)⟩)
  dsimp only [Pt.U, Pt.locs, Pt.cells, Pt.slots] at X10 l10 y10 z10 st10 hQ10
  have X10 := own_to X10 l10 y10 z10
  obtain ⟨x10_x1_b2, x10_x1_k2, rfl, N10q, K10, sz10_x1_b2, q10_0⟩ := hQ10
  have N10 := Fr.app N9 N10q
  have g11 : n0 ≤ x10_x1_b2 := Nat.le_trans (Nat.le_of_eq O5.1.symm) (Nat.le_trans O5.2.1 sz10_x1_b2)
  have s12 : h0.size ≤ x10_x1_b2 := Nat.le_trans K6.1 sz10_x1_b2
  have ne13 : a1 ≠ x10_x1_b2 := Nat.ne_of_lt (Nat.lt_of_lt_of_le t8.lt sz10_x1_b2)
  have ne14 : b1 ≠ x10_x1_b2 := Nat.ne_of_lt (Nat.lt_of_lt_of_le v7.lt sz10_x1_b2)
  have O15 : Old Z n0 T10.heap := Old.keep O5 K10 all0
  have K16 : Keep h0 T10.heap [] := K6.trans K10 all0
  obtain ⟨_, _, ⟨T17, L17, k17, n17⟩, -, X17, ⟨Lc17, hQ17, l17, y17, z17⟩, st17⟩ := Jvm.LawKit.callS X10 hx (y := my_10) hown (mvT hZ (wq hw 74 rfl)) (mvT hZ (wq hw 75 rfl)) (mvT hZ (wq hw 39 rfl)) (mvT hZ (wq hw 76 rfl)) (by decide) (backOf (W := 0) (rc44_getChar l Z a0 hw [] cs hS x10_x1_b2 x10_x1_k2 (nar .byte ((i3 >>> ((0 : Int32) &&& 31)).toInt8.toInt32)) (nar .byte ((i3 >>> ((8 : Int32) &&& 31)).toInt8.toInt32)) (nar .byte ((i4 >>> ((0 : Int32) &&& 31)).toInt8.toInt32)) (nar .byte ((i4 >>> ((8 : Int32) &&& 31)).toInt8.toInt32)) T10.heap n0 O15 g11 q10_0) hZ (wq hw 76 rfl) (wq hw 39 rfl) (by decide) (by decide)) (g := (mkF m 32 #[.val (.ref a1), .val (.int (0 : Int32)), .val (.int (2 : Int32)), .val (.ref b1), .val (.int (0 : Int32)), .val (.ref x10_x1_b2)] [(.int (0 : Int32)), (.ref x10_x1_b2)])) rfl (by rw [hml]; rfl) (argsL := [(.ref x10_x1_b2), (.int (0 : Int32))]) (rest := []) (lenOf pd_10 rfl) rfl (by show 2 * 0 + _ ≤ _; exact Nat.le_of_eq rfl) (hb hby d_jdk_52_method_16_32) (fun _ _ => ⟨rfl, rfl, (by decide : 2 + 0 ≤ _), (by decide : 6 + 0 ≤ _)⟩)
  dsimp only [Pt.U, Pt.locs, Pt.cells, Pt.slots] at X17 l17 y17 z17 st17 hQ17
  have X17 := own_to X17 l17 y17 z17
  obtain ⟨rfl, N17q, e17⟩ := hQ17
  have N17 := Fr.app N10 N17q
  obtain ⟨fs, hr, hrun, hended, hW, hsame⟩ := X17.leave (v := (some (.ref x10_x1_b2))) (fun h => by rw [Bd.returns] at h; cases h)
  refine ⟨_, _, pre0 _ ?_, hrun, hended, _, _, rfl, ?_, ⟨_, rfl⟩, hW, hsame.mono (by decide) (by decide)⟩
  · refine XS.iloadN X0.here hx rfl (hb hby d_jdk_52_method_16_0) rfl ?_
    refine st1 _ ?_
    refine XS.astoreN X1.here hx rfl (hb hby d_jdk_52_method_16_3) rfl rfl (l' := #[.val (.ref a1), .val (.int (0 : Int32)), .val (.int (2 : Int32)), .val (.ref b1), .unset, .unset]) rfl ?_
    refine XS.aloadN X1.here hx rfl (hb hby d_jdk_52_method_16_4) rfl rfl ?_
    refine XS.iloadN X1.here hx rfl (hb hby d_jdk_52_method_16_5) rfl ?_
    refine XS.aloadN X1.here hx rfl (hb hby d_jdk_52_method_16_6) rfl rfl ?_
    refine XS.iconst X1.here hx rfl (hb hby d_jdk_52_method_16_7) ?_
    refine XS.iloadN X1.here hx rfl (hb hby d_jdk_52_method_16_8) rfl ?_
    refine st9 _ ?_
    refine XS.istore X9.here hx rfl (hb hby d_jdk_52_method_16_12) rfl (l' := #[.val (.ref a1), .val (.int (0 : Int32)), .val (.int (2 : Int32)), .val (.ref b1), .val (.int (0 : Int32)), .unset]) rfl ?_
    refine XS.iload X9.here hx rfl (hb hby d_jdk_52_method_16_14) rfl ?_
    refine XS.iloadN X9.here hx rfl (hb hby d_jdk_52_method_16_16) rfl ?_
    refine XS.icmpNo X9.here hx rfl (hb hby d_jdk_52_method_16_17) rfl (feq (by decide : ¬ ((0 : Int32) = (2 : Int32)))).1 ?_
    refine XS.aloadN X9.here hx rfl (hb hby d_jdk_52_method_16_20) rfl rfl ?_
    refine XS.iloadN X9.here hx rfl (hb hby d_jdk_52_method_16_21) rfl ?_
    refine XS.iloadN X9.here hx rfl (hb hby d_jdk_52_method_16_22) rfl ?_
    refine st10 _ ?_
    refine XS.astore X10.here hx rfl (hb hby d_jdk_52_method_16_26) rfl rfl (l' := #[.val (.ref a1), .val (.int (0 : Int32)), .val (.int (2 : Int32)), .val (.ref b1), .val (.int (0 : Int32)), .val (.ref x10_x1_b2)]) rfl ?_
    refine XS.aload X10.here hx rfl (hb hby d_jdk_52_method_16_28) rfl rfl ?_
    refine XS.iload X10.here hx rfl (hb hby d_jdk_52_method_16_30) rfl ?_
    refine st17 _ ?_
    refine XS.sipush X17.here hx rfl (hb hby d_jdk_52_method_16_35) ?_
    refine XS.icmpYes X17.here hx rfl (pc0 := 38) (pc' := 54) rfl (hb hby d_jdk_52_method_16_38) rfl (tlt (own_getc hy0 hy2)).2.2.1 (by decide) (by decide) ?_
    refine XS.aload X17.here hx rfl (hb hby d_jdk_52_method_16_54) rfl rfl ?_
    exact retOut X17 hx Bd.returns rfl (Or.inr (Or.inr (Or.inr (Or.inr ⟨rfl, rfl, rfl⟩)))) (hb hby d_jdk_52_method_16_56) hr
  · show Q_rc37_compress Z a1 k2 i3 i4 h0 n0 _ T17.heap _
    rw [e17]
    exact ⟨x10_x1_b2, x10_x1_k2, rfl, N17, K16, s12, q10_0⟩
def Q_rc45_coderFromArrayLen (Z : State) (a1 : Addr) (k2 : ClassId) (i3 : Int32) (i4 : Int32) (i5 : Int32) (i6 : Int32) (h0 : Heap) (n0 : Nat) (v : Option Value) (h : Heap) (L : List Loc) : Prop := v = some (.int (1 : Int32)) ∧ Fr n0 L ∧ h = h0
set_option maxRecDepth 65536 in
set_option maxHeartbeats 40000000 in
theorem rc45_coderFromArrayLen (l : Launch) (Z : State) (a0 : Array Value) (hw : ∀ d ∈ tables_1, d.before a0 Z = true) (ws : List Jvm.Cond) (cs : Int32) (hS : SB Z cs) (a1 : Addr) (k2 : ClassId) (i3 : Int32) (i4 : Int32) (i5 : Int32) (i6 : Int32) (h0 : Heap) (n0 : Nat) (O0 : Old Z n0 h0) (g_a1 : n0 ≤ a1) (V_a1 : Arv Z h0 a1 k2 .byte (4 : Int32) [(.int i3), (.int i4), (.int i5), (.int i6)] (.int (0 : Int32))) :
    Met l my_12 jdk_52_method_15_code 2 (some .byte) ws ({ frames := 0, cells := 0, slots := 0, locals := 0 } : Room) #[(.ref a1), (.int (2 : Int32))] Z h0 (Q_rc45_coderFromArrayLen Z a1 k2 i3 i4 i5 i6 h0 n0) := by
  refine MetFree.of_bodySF (plainFor_of_name pn_3) hisR ?_
  intro p e s m args below meth c s₁ Bd hml0 hP hK
  obtain ⟨rfl, hZ, hh⟩ := hP
  have hx := Bd.exec
  have hby := Bd.bytes
  have hml : c.maxLocals = 2 := hml0
  have hown : s.vm.findClass nString_1 = some m.cls := findClass_of_methodNamed Bd.named
  have hnm := (name_of_methodNamed Bd.named Bd.method).1
  have X0 : Stand p l e ({ frames := 0, cells := 0, slots := 0, locals := 0 } : Room) s m #[(.ref a1), (.int (2 : Int32))] below meth c s₁ [] 0 0 := Stand.of_body Bd
  have e0 : s₁.heap = h0 := by rw [← hh, Bd.state]; rfl
  have N0 := Fr.nil n0
  obtain ⟨f₀, hf₀⟩ : ∃ f, f = entryFrame m #[(.ref a1), (.int (2 : Int32))] 2 := ⟨_, rfl⟩
  rw [← hf₀]
  have pre0 : Go p e below s₁ f₀ s₁ (mkF m 0 #[.val (.ref a1), .val (.int (2 : Int32))] []) := fun t k => castTop (hf₀.trans (ef_rc45_coderFromArrayLen m (a1) ((2 : Int32)))) k
  obtain ⟨c1, Ar1, q1, S1, M1, Hh1, G1⟩ := (id V_a1)
  obtain ⟨fs, hr, hrun, hended, hW, hsame⟩ := X0.leave (v := (some (.int (1 : Int32)))) (fun h => by rw [Bd.returns] at h; cases h)
  refine ⟨_, _, pre0 _ ?_, hrun, hended, _, _, rfl, ?_, ⟨_, rfl⟩, hW, hsame.mono (by decide) (by decide)⟩
  · refine XS.iloadN X0.here hx rfl (hb hby d_jdk_52_method_15_0) rfl ?_
    refine XS.aloadN X0.here hx rfl (hb hby d_jdk_52_method_15_1) rfl rfl ?_
    refine X0.arraylength hx (by rw [e0]; exact Ar1.1) (State.isArrayOf_alike hZ.alike Ar1.2.1) (g := (mkF m 2 #[.val (.ref a1), .val (.int (2 : Int32))] [(.ref a1), (.int (2 : Int32))])) rfl rfl (hb hby d_jdk_52_method_15_2) _ ?_
    rw [len_of S1 M1]
    refine XS.isub X0.here hx rfl (hb hby d_jdk_52_method_15_3) rfl ?_
    show Steps p.tables e below (s₁.setTop (mkF m 4 #[.val (.ref a1), .val (.int (2 : Int32))] [(.int (-2 : Int32))])) _
    refine XS.bipush X0.here hx rfl (hb hby d_jdk_52_method_15_4) ?_
    refine XS.iushr X0.here hx rfl (hb hby d_jdk_52_method_15_6) rfl ?_
    show Steps p.tables e below (s₁.setTop (mkF m 7 #[.val (.ref a1), .val (.int (2 : Int32))] [(.int (1 : Int32))])) _
    refine XS.i2b X0.here hx rfl (hb hby d_jdk_52_method_15_7) rfl ?_
    show Steps p.tables e below (s₁.setTop (mkF m 8 #[.val (.ref a1), .val (.int (2 : Int32))] [(.int (1 : Int32))])) _
    exact retN X0 hx (t := .byte) Bd.returns (by simp) (hb hby d_jdk_52_method_15_8) hr
  · show Q_rc45_coderFromArrayLen Z a1 k2 i3 i4 i5 i6 h0 n0 _ s₁.heap _
    rw [e0]
    exact ⟨rfl, N0, rfl⟩
def Q_rc36_init (Z : State) (a1 : Addr) (a2 : Addr) (k3 : ClassId) (i4 : Int32) (i5 : Int32) (h0 : Heap) (n0 : Nat) (v : Option Value) (h : Heap) (L : List Loc) : Prop := ∃ (x3_x10_x1_b2 : Addr), ∃ (x3_x10_x1_k2 : ClassId), v = none ∧ Fr n0 L ∧ Keep h0 h [a1] ∧ h0.size ≤ x3_x10_x1_b2 ∧ Exa Z h a1 nString_0 ∧ Fld Z h a1 nString_0 "coder" "B" (.int (1 : Int32)) ∧ Fld Z h a1 nString_0 "value" "[B" (.ref x3_x10_x1_b2) ∧ Arv Z h x3_x10_x1_b2 x3_x10_x1_k2 .byte (4 : Int32) [(.int (nar .byte ((i4 >>> ((0 : Int32) &&& 31)).toInt8.toInt32))), (.int (nar .byte ((i4 >>> ((8 : Int32) &&& 31)).toInt8.toInt32))), (.int (nar .byte ((i5 >>> ((0 : Int32) &&& 31)).toInt8.toInt32))), (.int (nar .byte ((i5 >>> ((8 : Int32) &&& 31)).toInt8.toInt32)))] (.int (0 : Int32))
set_option maxRecDepth 65536 in
set_option maxHeartbeats 40000000 in
theorem rc36_init (l : Launch) (Z : State) (a0 : Array Value) (hw : ∀ d ∈ tables_1, d.before a0 Z = true) (ws : List Jvm.Cond) (cs : Int32) (hS : SB Z cs) (a1 : Addr) (a2 : Addr) (k3 : ClassId) (i4 : Int32) (i5 : Int32) (h0 : Heap) (n0 : Nat) (O0 : Old Z n0 h0) (g_a1 : n0 ≤ a1) (g_a2 : n0 ≤ a2) (E_a1 : Exa Z h0 a1 nString_0) (F_a1_coder : Fld Z h0 a1 nString_0 "coder" "B" (.int (0 : Int32))) (F_a1_value : Fld Z h0 a1 nString_0 "value" "[B" .null) (V_a2 : Arv Z h0 a2 k3 .char (2 : Int32) [(.int i4), (.int i5)] (.int (0 : Int32))) (hy0 : nar .char i4 = i4) (hy2 : (255 : Int32) < i4) :
    Met l my_1 jdk_42_method_149_code 6 none ws ({ frames := 4, cells := 2, slots := 6, locals := 57 } : Room) #[(.ref a1), (.ref a2), (.int (0 : Int32)), (.int (2 : Int32)), .null] Z h0 (Q_rc36_init Z a1 a2 k3 i4 i5 h0 n0) := by
  refine MetFree.of_bodySF (plainFor_of_name pn_1) hisR ?_
  intro p e s m args below meth c s₁ Bd hml0 hP hK
  obtain ⟨rfl, hZ, hh⟩ := hP
  have hx := Bd.exec
  have hby := Bd.bytes
  have hml : c.maxLocals = 6 := hml0
  have hown : s.vm.findClass nString_0 = some m.cls := findClass_of_methodNamed Bd.named
  have hnm := (name_of_methodNamed Bd.named Bd.method).1
  have X0 : Stand p l e ({ frames := 4, cells := 2, slots := 6, locals := 57 } : Room) s m #[(.ref a1), (.ref a2), (.int (0 : Int32)), (.int (2 : Int32)), .null] below meth c s₁ [] 0 0 := Stand.of_body Bd
  have e0 : s₁.heap = h0 := by rw [← hh, Bd.state]; rfl
  have N0 := Fr.nil n0
  obtain ⟨f₀, hf₀⟩ : ∃ f, f = entryFrame m #[(.ref a1), (.ref a2), (.int (0 : Int32)), (.int (2 : Int32)), .null] 6 := ⟨_, rfl⟩
  rw [← hf₀]
  have pre0 : Go p e below s₁ f₀ s₁ (mkF m 0 #[.val (.ref a1), .val (.ref a2), .val (.int (0 : Int32)), .val (.int (2 : Int32)), .val .null, .unset] []) := fun t k => castTop (hf₀.trans (ef_rc36_init m (a1) (a2) ((0 : Int32)) ((2 : Int32)))) k
  obtain ⟨T1, X1, e1, st1⟩ := initO X0 hx hZ hown (wq hw 16 rfl) (wq hw 17 rfl) (wq hw 18 rfl) e0 (g := (mkF m 1 #[.val (.ref a1), .val (.ref a2), .val (.int (0 : Int32)), .val (.int (2 : Int32)), .val .null, .unset] [(.ref a1)])) rfl (by rw [hml]; rfl) rfl (hb hby d_jdk_42_method_149_1) (by decide) (W := 0) (by show 2 * 0 + _ ≤ _; exact Nat.le_of_eq rfl) (by decide)
  obtain ⟨T2, X2, e2, st2⟩ := getS2 X1 hx hZ hown (host := "") (Or.inl (wq hw 36 rfl)) Via.refl e1 (hS.1.ext O0.2) (g := (mkF m 27 #[.val (.ref a1), .val (.ref a2), .val (.int (0 : Int32)), .val (.int (2 : Int32)), .val .null, .unset] [])) rfl (hb hby d_jdk_42_method_149_27)
  obtain ⟨_, _, ⟨T3, L3, k3, n3⟩, -, X3, ⟨Lc3, hQ3, l3, y3, z3⟩, st3⟩ := Jvm.LawKit.callS X2 hx (y := my_11) hown (mvT hZ (wq hw 37 rfl)) (mvT hZ (wq hw 38 rfl)) (mvT hZ (wq hw 39 rfl)) (mvT hZ (wq hw 40 rfl)) (by decide) (backOf (W := 0) (rc37_compress l Z a0 hw [] cs hS a2 k3 i4 i5 h0 n0 O0 g_a2 V_a2 hy0 hy2) hZ (wq hw 40 rfl) (wq hw 39 rfl) (by decide) (by decide)) (g := (mkF m 36 #[.val (.ref a1), .val (.ref a2), .val (.int (0 : Int32)), .val (.int (2 : Int32)), .val .null, .unset] [(.int (2 : Int32)), (.int (0 : Int32)), (.ref a2)])) rfl (by rw [hml]; rfl) (argsL := [(.ref a2), (.int (0 : Int32)), (.int (2 : Int32))]) (rest := []) (lenOf pd_9 rfl) rfl (by show 2 * 0 + _ ≤ _; exact Nat.le_of_eq rfl) (hb hby d_jdk_42_method_149_36) (fun _ _ => ⟨rfl, e2, (by decide : 0 + 2 ≤ _), (by decide : 0 + 6 ≤ _)⟩)
  dsimp only [Pt.U, Pt.locs, Pt.cells, Pt.slots] at X3 l3 y3 z3 st3 hQ3
  have X3 := own_to X3 l3 y3 z3
  obtain ⟨x3_x10_x1_b2, x3_x10_x1_k2, rfl, N3q, K3, sz3_x10_x1_b2, q3_0⟩ := hQ3
  have N3 := Fr.app N0 N3q
  have g4 : n0 ≤ x3_x10_x1_b2 := Nat.le_trans (Nat.le_of_eq O0.1.symm) (Nat.le_trans O0.2.1 sz3_x10_x1_b2)
  have s5 : h0.size ≤ x3_x10_x1_b2 := Nat.le_trans (Keep.refl h0 [a1]).1 sz3_x10_x1_b2
  have ne6 : a1 ≠ x3_x10_x1_b2 := Nat.ne_of_lt (Nat.lt_of_lt_of_le E_a1.lt sz3_x10_x1_b2)
  have ne7 : a2 ≠ x3_x10_x1_b2 := Nat.ne_of_lt (Nat.lt_of_lt_of_le V_a2.lt sz3_x10_x1_b2)
  have O8 : Old Z n0 T3.heap := Old.keep O0 K3 all0
  have K9 : Keep h0 T3.heap [a1] := (Keep.refl h0 [a1]).trans K3 all0
  obtain ⟨_, _, ⟨T10, L10, k10, n10⟩, -, X10, ⟨Lc10, hQ10, l10, y10, z10⟩, st10⟩ := Jvm.LawKit.callS X3 hx (y := my_12) hown (mvT hZ (wq hw 44 rfl)) (mvT hZ (wq hw 45 rfl)) (mvT hZ (wq hw 39 rfl)) (mvT hZ (wq hw 46 rfl)) (by decide) (backOf (W := 1) (rc45_coderFromArrayLen l Z a0 hw [] cs hS x3_x10_x1_b2 x3_x10_x1_k2 (nar .byte ((i4 >>> ((0 : Int32) &&& 31)).toInt8.toInt32)) (nar .byte ((i4 >>> ((8 : Int32) &&& 31)).toInt8.toInt32)) (nar .byte ((i5 >>> ((0 : Int32) &&& 31)).toInt8.toInt32)) (nar .byte ((i5 >>> ((8 : Int32) &&& 31)).toInt8.toInt32)) T3.heap n0 O8 g4 q3_0) hZ (wq hw 46 rfl) (wq hw 39 rfl) (by decide) (by decide)) (g := (mkF m 45 #[.val (.ref a1), .val (.ref a2), .val (.int (0 : Int32)), .val (.int (2 : Int32)), .val .null, .val (.ref x3_x10_x1_b2)] [(.int (2 : Int32)), (.ref x3_x10_x1_b2), (.ref a1)])) rfl (by rw [hml]; rfl) (argsL := [(.ref x3_x10_x1_b2), (.int (2 : Int32))]) (rest := [(.ref a1)]) (lenOf pd_11 rfl) rfl (by show 2 * 0 + _ ≤ _; exact Nat.le_of_eq rfl) (hb hby d_jdk_42_method_149_45) (fun _ _ => ⟨rfl, rfl, (by decide : 2 + 0 ≤ _), (by decide : 6 + 0 ≤ _)⟩)
  dsimp only [Pt.U, Pt.locs, Pt.cells, Pt.slots] at X10 l10 y10 z10 st10 hQ10
  have X10 := own_to X10 l10 y10 z10
  obtain ⟨rfl, N10q, e10⟩ := hQ10
  have N10 := Fr.app N3 N10q
  have t11 : Exa Z T3.heap a1 nString_0 := (E_a1.keep K3)
  have t12 : Fld Z T3.heap a1 nString_0 "coder" "B" (.int (0 : Int32)) := (F_a1_coder.keep K3 nin0)
  obtain ⟨T13, h13, X13, e13, W13, st13⟩ := putFN X10 hx hZ hown (wq hw 26 rfl) Via.refl e10 t12 t11 (Or.inr ⟨(wq hw 22 rfl), rfl, hnm⟩) (wq hw 6 rfl) (ty := .byte) (v' := (.int (1 : Int32))) (by decide) rfl (by decide +kernel) (g := (mkF m 48 #[.val (.ref a1), .val (.ref a2), .val (.int (0 : Int32)), .val (.int (2 : Int32)), .val .null, .val (.ref x3_x10_x1_b2)] [(.int (1 : Int32)), (.ref a1)])) rfl rfl (hb hby d_jdk_42_method_149_48)
  have f14 : Fld Z h13 a1 nString_0 "coder" "B" (.int (1 : Int32)) := t12.same W13
  have N13 := Fr.snoc X13 N10 g_a1
  have O15 : Old Z n0 h13 := Old.wr O8 W13 g_a1
  have K16 : Keep h0 h13 [a1] := K9.wr W13 (Or.inl (List.mem_of_getElem? (i := 0) rfl))
  have t17 : Exa Z h13 a1 nString_0 := (t11.wr W13)
  have t18 : Fld Z h13 a1 nString_0 "value" "[B" .null := ((F_a1_value.keep K3 nin0).other W13 (Or.inr (slot_ne (Or.inr (wq hw 21 rfl)) (Or.inr (wq hw 22 rfl)) (by decide) (t := (.array .byte)) (t' := .byte) (by decide) (by decide))))
  obtain ⟨T19, h19, X19, e19, W19, st19⟩ := putF X13 hx hZ hown (host := "") (Or.inl (wq hw 25 rfl)) Via.refl e13 t18 t17 (Or.inr ⟨(wq hw 21 rfl), rfl, hnm⟩) (wq hw 6 rfl) (ty := (.array .byte)) (by decide) rfl rfl (g := (mkF m 54 #[.val (.ref a1), .val (.ref a2), .val (.int (0 : Int32)), .val (.int (2 : Int32)), .val .null, .val (.ref x3_x10_x1_b2)] [(.ref x3_x10_x1_b2), (.ref a1)])) rfl rfl (hb hby d_jdk_42_method_149_54)
  have f20 : Fld Z h19 a1 nString_0 "value" "[B" (.ref x3_x10_x1_b2) := t18.same W19
  have N19 := Fr.snoc X19 N13 g_a1
  have O21 : Old Z n0 h19 := Old.wr O15 W19 g_a1
  have K22 : Keep h0 h19 [a1] := K16.wr W19 (Or.inl (List.mem_of_getElem? (i := 0) rfl))
  have t23 : Exa Z h19 a1 nString_0 := (t17.wr W19)
  have t24 : Fld Z h19 a1 nString_0 "coder" "B" (.int (1 : Int32)) := (f14.other W19 (Or.inr (slot_ne (Or.inr (wq hw 22 rfl)) (Or.inr (wq hw 21 rfl)) (by decide) (t := .byte) (t' := (.array .byte)) (by decide) (by decide))))
  have t25 : Arv Z h19 x3_x10_x1_b2 x3_x10_x1_k2 .byte (4 : Int32) [(.int (nar .byte ((i4 >>> ((0 : Int32) &&& 31)).toInt8.toInt32))), (.int (nar .byte ((i4 >>> ((8 : Int32) &&& 31)).toInt8.toInt32))), (.int (nar .byte ((i5 >>> ((0 : Int32) &&& 31)).toInt8.toInt32))), (.int (nar .byte ((i5 >>> ((8 : Int32) &&& 31)).toInt8.toInt32)))] (.int (0 : Int32)) := ((q3_0.other W13 (Ne.symm ne6)).other W19 (Ne.symm ne6))
  obtain ⟨fs, hr, hrun, hended, hW, hsame⟩ := X19.leave (v := none) (fun _ => rfl)
  refine ⟨_, _, pre0 _ ?_, hrun, hended, _, _, rfl, ?_, ⟨_, rfl⟩, hW, hsame.mono (by decide) (by decide)⟩
  · refine XS.aloadN X0.here hx rfl (hb hby d_jdk_42_method_149_0) rfl rfl ?_
    refine st1 _ ?_
    refine XS.iloadN X1.here hx rfl (hb hby d_jdk_42_method_149_4) rfl ?_
    refine XS.ifYes X1.here hx rfl (pc0 := 5) (pc' := 27) rfl (hb hby d_jdk_42_method_149_5) rfl ((if0 _ _).trans (feq (by decide : ¬ ((2 : Int32) = (0 : Int32)))).2) (by decide) (by decide) ?_
    refine st2 _ ?_
    refine XS.ifNo X2.here hx rfl (hb hby d_jdk_42_method_149_30) rfl ((if0 _ _).trans (feq hS.2.1).1) ?_
    refine XS.aloadN X2.here hx rfl (hb hby d_jdk_42_method_149_33) rfl rfl ?_
    refine XS.iloadN X2.here hx rfl (hb hby d_jdk_42_method_149_34) rfl ?_
    refine XS.iloadN X2.here hx rfl (hb hby d_jdk_42_method_149_35) rfl ?_
    refine st3 _ ?_
    refine XS.astore X3.here hx rfl (hb hby d_jdk_42_method_149_39) rfl rfl (l' := #[.val (.ref a1), .val (.ref a2), .val (.int (0 : Int32)), .val (.int (2 : Int32)), .val .null, .val (.ref x3_x10_x1_b2)]) rfl ?_
    refine XS.aloadN X3.here hx rfl (hb hby d_jdk_42_method_149_41) rfl rfl ?_
    refine XS.aload X3.here hx rfl (hb hby d_jdk_42_method_149_42) rfl rfl ?_
    refine XS.iloadN X3.here hx rfl (hb hby d_jdk_42_method_149_44) rfl ?_
    refine st10 _ ?_
    refine st13 _ ?_
    refine XS.aloadN X13.here hx rfl (hb hby d_jdk_42_method_149_51) rfl rfl ?_
    refine XS.aload X13.here hx rfl (hb hby d_jdk_42_method_149_52) rfl rfl ?_
    refine st19 _ ?_
    exact X19.returnOut hx Bd.returns (hb hby d_jdk_42_method_149_57) hr
  · show Q_rc36_init Z a1 a2 k3 i4 i5 h0 n0 _ T19.heap _
    rw [e19]
    exact ⟨x3_x10_x1_b2, x3_x10_x1_k2, rfl, N19, K22, s5, t23, t24, f20, t25⟩
def Q_rc35_init (Z : State) (a1 : Addr) (a2 : Addr) (k3 : ClassId) (i4 : Int32) (i5 : Int32) (h0 : Heap) (n0 : Nat) (v : Option Value) (h : Heap) (L : List Loc) : Prop := ∃ (x2_x3_x10_x1_b2 : Addr), ∃ (x2_x3_x10_x1_k2 : ClassId), v = none ∧ Fr n0 L ∧ Keep h0 h [a1] ∧ h0.size ≤ x2_x3_x10_x1_b2 ∧ Exa Z h a1 nString_0 ∧ Fld Z h a1 nString_0 "coder" "B" (.int (1 : Int32)) ∧ Fld Z h a1 nString_0 "value" "[B" (.ref x2_x3_x10_x1_b2) ∧ Arv Z h x2_x3_x10_x1_b2 x2_x3_x10_x1_k2 .byte (4 : Int32) [(.int (nar .byte ((i4 >>> ((0 : Int32) &&& 31)).toInt8.toInt32))), (.int (nar .byte ((i4 >>> ((8 : Int32) &&& 31)).toInt8.toInt32))), (.int (nar .byte ((i5 >>> ((0 : Int32) &&& 31)).toInt8.toInt32))), (.int (nar .byte ((i5 >>> ((8 : Int32) &&& 31)).toInt8.toInt32)))] (.int (0 : Int32))
set_option maxRecDepth 65536 in
set_option maxHeartbeats 40000000 in
theorem rc35_init (l : Launch) (Z : State) (a0 : Array Value) (hw : ∀ d ∈ tables_1, d.before a0 Z = true) (ws : List Jvm.Cond) (cs : Int32) (hS : SB Z cs) (a1 : Addr) (a2 : Addr) (k3 : ClassId) (i4 : Int32) (i5 : Int32) (h0 : Heap) (n0 : Nat) (O0 : Old Z n0 h0) (g_a1 : n0 ≤ a1) (g_a2 : n0 ≤ a2) (E_a1 : Exa Z h0 a1 nString_0) (F_a1_coder : Fld Z h0 a1 nString_0 "coder" "B" (.int (0 : Int32))) (F_a1_value : Fld Z h0 a1 nString_0 "value" "[B" .null) (V_a2 : Arv Z h0 a2 k3 .char (2 : Int32) [(.int i4), (.int i5)] (.int (0 : Int32))) (hy0 : nar .char i4 = i4) (hy2 : (255 : Int32) < i4) :
    Met l my_2 jdk_42_method_3_code 2 none ws ({ frames := 5, cells := 2, slots := 6, locals := 74 } : Room) #[(.ref a1), (.ref a2)] Z h0 (Q_rc35_init Z a1 a2 k3 i4 i5 h0 n0) := by
  refine MetFree.of_bodySF (plainFor_of_name pn_1) hisR ?_
  intro p e s m args below meth c s₁ Bd hml0 hP hK
  obtain ⟨rfl, hZ, hh⟩ := hP
  have hx := Bd.exec
  have hby := Bd.bytes
  have hml : c.maxLocals = 2 := hml0
  have hown : s.vm.findClass nString_0 = some m.cls := findClass_of_methodNamed Bd.named
  have hnm := (name_of_methodNamed Bd.named Bd.method).1
  have X0 : Stand p l e ({ frames := 5, cells := 2, slots := 6, locals := 74 } : Room) s m #[(.ref a1), (.ref a2)] below meth c s₁ [] 0 0 := Stand.of_body Bd
  have e0 : s₁.heap = h0 := by rw [← hh, Bd.state]; rfl
  have N0 := Fr.nil n0
  obtain ⟨f₀, hf₀⟩ : ∃ f, f = entryFrame m #[(.ref a1), (.ref a2)] 2 := ⟨_, rfl⟩
  rw [← hf₀]
  have pre0 : Go p e below s₁ f₀ s₁ (mkF m 0 #[.val (.ref a1), .val (.ref a2)] []) := fun t k => castTop (hf₀.trans (ef_rc35_init m (a1) (a2))) k
  obtain ⟨c1, Ar1, q1, S1, M1, Hh1, G1⟩ := (id V_a2)
  obtain ⟨_, _, ⟨T2, L2, k2, n2⟩, -, X2, ⟨Lc2, hQ2, l2, y2, z2⟩, st2⟩ := X0.specialBack hx (y := my_1) rfl hown (mvT hZ (wq hw 12 rfl)) (mvT hZ (wq hw 13 rfl)) (mvT hZ (wq hw 15 rfl)) (by decide) (backOf (W := 0) (rc36_init l Z a0 hw [] cs hS a1 a2 k3 i4 i5 h0 n0 O0 g_a1 g_a2 E_a1 F_a1_coder F_a1_value V_a2 hy0 hy2) hZ (wq hw 15 rfl) (wq hw 7 rfl) (by decide) (by decide)) (g := (mkF m 6 #[.val (.ref a1), .val (.ref a2)] [.null, (.int (2 : Int32)), (.int (0 : Int32)), (.ref a2), (.ref a1)])) rfl (by rw [hml]; rfl) (Steps.refl _) (a := a1) (argsL := [(.ref a2), (.int (0 : Int32)), (.int (2 : Int32)), .null]) (rest := []) (lenOf pd_1 rfl) rfl (by show 2 * 0 + _ ≤ _; exact Nat.le_of_eq rfl) (hb hby d_jdk_42_method_3_6) (fun _ _ => ⟨rfl, e0, (by decide : 0 + 2 ≤ _), (by decide : 0 + 6 ≤ _)⟩)
  dsimp only [Pt.U, Pt.locs, Pt.cells, Pt.slots] at X2 l2 y2 z2 st2 hQ2
  have X2 := own_to X2 l2 y2 z2
  obtain ⟨x2_x3_x10_x1_b2, x2_x3_x10_x1_k2, rfl, N2q, K2, sz2_x3_x10_x1_b2, q2_0, q2_1, q2_2, q2_3⟩ := hQ2
  have N2 := Fr.app N0 N2q
  have g3 : n0 ≤ x2_x3_x10_x1_b2 := Nat.le_trans (Nat.le_of_eq O0.1.symm) (Nat.le_trans O0.2.1 sz2_x3_x10_x1_b2)
  have s4 : h0.size ≤ x2_x3_x10_x1_b2 := Nat.le_trans (Keep.refl h0 [a1]).1 sz2_x3_x10_x1_b2
  have ne5 : a1 ≠ x2_x3_x10_x1_b2 := Nat.ne_of_lt (Nat.lt_of_lt_of_le E_a1.lt sz2_x3_x10_x1_b2)
  have ne6 : a2 ≠ x2_x3_x10_x1_b2 := Nat.ne_of_lt (Nat.lt_of_lt_of_le V_a2.lt sz2_x3_x10_x1_b2)
  have O7 : Old Z n0 T2.heap := Old.keep O0 K2 (allS g_a1 all0)
  have K8 : Keep h0 T2.heap [a1] := (Keep.refl h0 [a1]).trans K2 (allS (Or.inl (List.mem_of_getElem? (i := 0) rfl)) all0)
  obtain ⟨fs, hr, hrun, hended, hW, hsame⟩ := X2.leave (v := none) (fun _ => rfl)
  refine ⟨_, _, pre0 _ ?_, hrun, hended, _, _, rfl, ?_, ⟨_, rfl⟩, hW, hsame.mono (by decide) (by decide)⟩
  · refine XS.aloadN X0.here hx rfl (hb hby d_jdk_42_method_3_0) rfl rfl ?_
    refine XS.aloadN X0.here hx rfl (hb hby d_jdk_42_method_3_1) rfl rfl ?_
    refine XS.iconst X0.here hx rfl (hb hby d_jdk_42_method_3_2) ?_
    refine XS.aloadN X0.here hx rfl (hb hby d_jdk_42_method_3_3) rfl rfl ?_
    refine X0.arraylength hx (by rw [e0]; exact Ar1.1) (State.isArrayOf_alike hZ.alike Ar1.2.1) (g := (mkF m 4 #[.val (.ref a1), .val (.ref a2)] [(.ref a2), (.int (0 : Int32)), (.ref a2), (.ref a1)])) rfl rfl (hb hby d_jdk_42_method_3_4) _ ?_
    rw [len_of S1 M1]
    refine XS.aconstNull X0.here hx rfl (hb hby d_jdk_42_method_3_5) ?_
    refine st2.trans ?_
    exact X2.returnOut hx Bd.returns (hb hby d_jdk_42_method_3_9) hr
  · show Q_rc35_init Z a1 a2 k3 i4 i5 h0 n0 _ T2.heap _
    exact ⟨x2_x3_x10_x1_b2, x2_x3_x10_x1_k2, rfl, N2, K8, s4, q2_0, q2_1, q2_2, q2_3⟩
def Q_rc34_make (Z : State) (i1 : Int32) (i2 : Int32) (i3 : Int32) (h0 : Heap) (n0 : Nat) (v : Option Value) (h : Heap) (L : List Loc) : Prop := ∃ (b1 : Addr), ∃ (x30_x2_x3_x10_x1_b2 : Addr), ∃ (x30_x2_x3_x10_x1_k2 : ClassId), v = some (.ref b1) ∧ Fr n0 L ∧ Keep h0 h [] ∧ h0.size ≤ b1 ∧ h0.size ≤ x30_x2_x3_x10_x1_b2 ∧ Exa Z h b1 nString_0 ∧ Fld Z h b1 nString_0 "coder" "B" (.int (1 : Int32)) ∧ Fld Z h b1 nString_0 "value" "[B" (.ref x30_x2_x3_x10_x1_b2) ∧ Arv Z h x30_x2_x3_x10_x1_b2 x30_x2_x3_x10_x1_k2 .byte (4 : Int32) [(.int (nar .byte ((i1 >>> ((0 : Int32) &&& 31)).toInt8.toInt32))), (.int (nar .byte ((i1 >>> ((8 : Int32) &&& 31)).toInt8.toInt32))), (.int (nar .byte ((i2 >>> ((0 : Int32) &&& 31)).toInt8.toInt32))), (.int (nar .byte ((i2 >>> ((8 : Int32) &&& 31)).toInt8.toInt32)))] (.int (0 : Int32))
set_option maxRecDepth 65536 in
set_option maxHeartbeats 40000000 in
theorem rc34_make (l : Launch) (Z : State) (a0 : Array Value) (hw : ∀ d ∈ tables_1, d.before a0 Z = true) (ws : List Jvm.Cond) (cs : Int32) (hS : SB Z cs) (i1 : Int32) (i2 : Int32) (i3 : Int32) (h0 : Heap) (n0 : Nat) (O0 : Old Z n0 h0) (hy0 : nar .char i1 = i1) (hy1 : nar .char i2 = i2) (hy3 : (255 : Int32) < i1) :
    Met l my_3 method_2_code 4 (some (.object nString_0)) ws ({ frames := 6, cells := 4, slots := 12, locals := 88 } : Room) #[(.int (2 : Int32)), (.int i1), (.int i2), (.int i3)] Z h0 (Q_rc34_make Z i1 i2 i3 h0 n0) := by
  refine MetFree.of_bodySF (plainFor_of_name pn_2) hisR ?_
  intro p e s m args below meth c s₁ Bd hml0 hP hK
  obtain ⟨rfl, hZ, hh⟩ := hP
  have hx := Bd.exec
  have hby := Bd.bytes
  have hml : c.maxLocals = 4 := hml0
  have hown : s.vm.findClass nUnfore_3 = some m.cls := findClass_of_methodNamed Bd.named
  have hnm := (name_of_methodNamed Bd.named Bd.method).1
  have X0 : Stand p l e ({ frames := 6, cells := 4, slots := 12, locals := 88 } : Room) s m #[(.int (2 : Int32)), (.int i1), (.int i2), (.int i3)] below meth c s₁ [] 0 0 := Stand.of_body Bd
  have e0 : s₁.heap = h0 := by rw [← hh, Bd.state]; rfl
  have N0 := Fr.nil n0
  obtain ⟨f₀, hf₀⟩ : ∃ f, f = entryFrame m #[(.int (2 : Int32)), (.int i1), (.int i2), (.int i3)] 4 := ⟨_, rfl⟩
  rw [← hf₀]
  have pre0 : Go p e below s₁ f₀ s₁ (mkF m 0 #[.val (.int (2 : Int32)), .val (.int i1), .val (.int i2), .val (.int i3)] []) := fun t k => castTop (hf₀.trans (ef_rc34_make m ((2 : Int32)) (i1) (i2) (i3))) k
  obtain ⟨T1, h1, X1, e1, E1, A1, D1, -, st1⟩ := newO X0 hx hZ hown (wq hw 5 rfl) (wq hw 6 rfl) (wq hw 7 rfl) e0 (g := (mkF m 40 #[.val (.int (2 : Int32)), .val (.int i1), .val (.int i2), .val (.int i3)] [])) rfl (hb hby d_method_2_40) (by decide) (by decide)
  obtain ⟨b1, gb1⟩ : ∃ z, z = h0.size := ⟨_, rfl⟩
  rw [← gb1] at A1 D1 st1
  have g2 : n0 ≤ b1 := Nat.le_trans (Nat.le_of_eq O0.1.symm) (Nat.le_trans O0.2.1 (Nat.le_of_eq gb1.symm))
  have s3 : h0.size ≤ b1 := Nat.le_trans (Keep.refl h0 []).1 (Nat.le_of_eq gb1.symm)
  have O4 : Old Z n0 h1 := Old.ext O0 E1
  have K5 : Keep h0 h1 [] := (Keep.refl h0 []).ext E1
  have f6 : Fld Z h1 b1 nString_0 "value" "[B" .null := D1 (Or.inr (wq hw 21 rfl)) (ty := (.array .byte)) (by decide)
  have f7 : Fld Z h1 b1 nString_0 "coder" "B" (.int (0 : Int32)) := D1 (Or.inr (wq hw 22 rfl)) (ty := .byte) (by decide)
  obtain ⟨T8, h8, k8, X8, e8, E8, A8, st8⟩ := newP X1 hx hZ (wq hw 8 rfl) e1 (g := (mkF m 45 #[.val (.int (2 : Int32)), .val (.int i1), .val (.int i2), .val (.int i3)] [(.int (2 : Int32)), (.ref b1), (.ref b1)])) rfl (hb hby d_method_2_45) rfl (by decide) (cap := 2) (by decide) (by decide) (by decide) (by decide)
  obtain ⟨b8, gb8⟩ : ∃ z, z = h1.size := ⟨_, rfl⟩
  rw [← gb8] at A8 st8
  have ne9 : b1 ≠ b8 := Nat.ne_of_lt (Nat.lt_of_lt_of_le A1.lt (Nat.le_of_eq gb8.symm))
  have g10 : n0 ≤ b8 := Nat.le_trans (Nat.le_of_eq O4.1.symm) (Nat.le_trans O4.2.1 (Nat.le_of_eq gb8.symm))
  have s11 : h0.size ≤ b8 := Nat.le_trans K5.1 (Nat.le_of_eq gb8.symm)
  have O12 : Old Z n0 h8 := Old.ext O4 E8
  have K13 : Keep h0 h8 [] := K5.ext E8
  have v14 : Arv Z h8 b8 k8 .char (2 : Int32) [(.int (0 : Int32)), (.int (0 : Int32))] (.int (0 : Int32)) := (Arv.new A8 (by decide)).pad (pad_rep [] (.int (0 : Int32)) 2)
  obtain ⟨c15, Ar15, q15, S15, M15, Hh15, G15⟩ := (id v14)
  have hin15 : ¬ ((0 : Int32) < 0 ∨ c15.slots.size ≤ ((0 : Int32)).toNatClampNeg) := inb_of S15 ⟨by decide, by decide⟩
  obtain ⟨T16, h16, X16, e16, W16, st16⟩ := stC X8 hx hZ e8 Ar15 (j := (0 : Int32)) hin15 (g := (mkF m 50 #[.val (.int (2 : Int32)), .val (.int i1), .val (.int i2), .val (.int i3)] [(.int i1), (.int (0 : Int32)), (.ref b8), (.ref b8), (.ref b1), (.ref b1)])) rfl rfl (hb hby d_method_2_50)
  have v17 : Arv Z h16 b8 k8 .char (2 : Int32) [(.int (nar .char i1)), (.int (0 : Int32))] (.int (0 : Int32)) := Arv.set Ar15 q15 S15 M15 Hh15 G15 (fits_nar_char _) W16 0 rfl (Nat.le_of_ble_eq_true rfl)
  have v18 : Arv Z h16 b8 k8 .char (2 : Int32) [(.int i1), (.int (0 : Int32))] (.int (0 : Int32)) := by rw [hy0] at v17; exact v17
  have N16 := Fr.snoc X16 N0 g10
  have O19 : Old Z n0 h16 := Old.wr O12 W16 g10
  have K20 : Keep h0 h16 [] := K13.wr W16 (Or.inr s11)
  obtain ⟨c21, Ar21, q21, S21, M21, Hh21, G21⟩ := (id v18)
  have hin21 : ¬ ((1 : Int32) < 0 ∨ c21.slots.size ≤ ((1 : Int32)).toNatClampNeg) := inb_of S21 ⟨by decide, by decide⟩
  obtain ⟨T22, h22, X22, e22, W22, st22⟩ := stC X16 hx hZ e16 Ar21 (j := (1 : Int32)) hin21 (g := (mkF m 54 #[.val (.int (2 : Int32)), .val (.int i1), .val (.int i2), .val (.int i3)] [(.int i2), (.int (1 : Int32)), (.ref b8), (.ref b8), (.ref b1), (.ref b1)])) rfl rfl (hb hby d_method_2_54)
  have v23 : Arv Z h22 b8 k8 .char (2 : Int32) [(.int i1), (.int (nar .char i2))] (.int (0 : Int32)) := Arv.set Ar21 q21 S21 M21 Hh21 G21 (fits_nar_char _) W22 1 rfl (Nat.le_of_ble_eq_true rfl)
  have v24 : Arv Z h22 b8 k8 .char (2 : Int32) [(.int i1), (.int i2)] (.int (0 : Int32)) := by rw [hy1] at v23; exact v23
  have N22 := Fr.snoc X22 N16 g10
  have O25 : Old Z n0 h22 := Old.wr O19 W22 g10
  have K26 : Keep h0 h22 [] := K20.wr W22 (Or.inr s11)
  have t27 : Exa Z h22 b1 nString_0 := (((A1.ext E8).wr W16).wr W22)
  have t28 : Fld Z h22 b1 nString_0 "coder" "B" (.int (0 : Int32)) := (((f7.ext E8).other W16 (Or.inl ne9)).other W22 (Or.inl ne9))
  have t29 : Fld Z h22 b1 nString_0 "value" "[B" .null := (((f6.ext E8).other W16 (Or.inl ne9)).other W22 (Or.inl ne9))
  obtain ⟨_, _, ⟨T30, L30, k30, n30⟩, -, X30, ⟨Lc30, hQ30, l30, y30, z30⟩, st30⟩ := X22.specialBack hx (y := my_2) rfl hown (mvT hZ (wq hw 9 rfl)) (mvT hZ (wq hw 10 rfl)) (mvT hZ (wq hw 11 rfl)) (by decide) (backOf (W := 1) (rc35_init l Z a0 hw [] cs hS b1 b8 k8 i1 i2 h22 n0 O25 g2 g10 t27 t28 t29 v24 hy0 hy3) hZ (wq hw 11 rfl) (wq hw 7 rfl) (by decide) (by decide)) (g := (mkF m 55 #[.val (.int (2 : Int32)), .val (.int i1), .val (.int i2), .val (.int i3)] [(.ref b8), (.ref b1), (.ref b1)])) rfl (by rw [hml]; rfl) (Steps.refl _) (a := b1) (argsL := [(.ref b8)]) (rest := [(.ref b1)]) (lenOf pd_2 rfl) rfl (by show 2 * 0 + _ ≤ _; exact Nat.le_of_eq rfl) (hb hby d_method_2_55) (fun _ _ => ⟨rfl, e22, (by decide : 2 + 2 ≤ _), (by decide : 6 + 6 ≤ _)⟩)
  dsimp only [Pt.U, Pt.locs, Pt.cells, Pt.slots] at X30 l30 y30 z30 st30 hQ30
  have X30 := own_to X30 l30 y30 z30
  obtain ⟨x30_x2_x3_x10_x1_b2, x30_x2_x3_x10_x1_k2, rfl, N30q, K30, sz30_x2_x3_x10_x1_b2, q30_0, q30_1, q30_2, q30_3⟩ := hQ30
  have N30 := Fr.app N22 N30q
  have g31 : n0 ≤ x30_x2_x3_x10_x1_b2 := Nat.le_trans (Nat.le_of_eq O25.1.symm) (Nat.le_trans O25.2.1 sz30_x2_x3_x10_x1_b2)
  have s32 : h0.size ≤ x30_x2_x3_x10_x1_b2 := Nat.le_trans K26.1 sz30_x2_x3_x10_x1_b2
  have ne33 : b1 ≠ x30_x2_x3_x10_x1_b2 := Nat.ne_of_lt (Nat.lt_of_lt_of_le t27.lt sz30_x2_x3_x10_x1_b2)
  have ne34 : b8 ≠ x30_x2_x3_x10_x1_b2 := Nat.ne_of_lt (Nat.lt_of_lt_of_le v24.lt sz30_x2_x3_x10_x1_b2)
  have O35 : Old Z n0 T30.heap := Old.keep O25 K30 (allS g2 all0)
  have K36 : Keep h0 T30.heap [] := K26.trans K30 (allS (Or.inr s3) all0)
  obtain ⟨fs, hr, hrun, hended, hW, hsame⟩ := X30.leave (v := (some (.ref b1))) (fun h => by rw [Bd.returns] at h; cases h)
  refine ⟨_, _, pre0 _ ?_, hrun, hended, _, _, rfl, ?_, ⟨_, rfl⟩, hW, hsame.mono (by decide) (by decide)⟩
  · refine XS.iloadN X0.here hx rfl (hb hby d_method_2_0) rfl ?_
    refine XS.ifYes X0.here hx rfl (pc0 := 1) (pc' := 15) rfl (hb hby d_method_2_1) rfl ((if0 _ _).trans (feq (by decide : ¬ ((2 : Int32) = (0 : Int32)))).2) (by decide) (by decide) ?_
    refine XS.iloadN X0.here hx rfl (hb hby d_method_2_15) rfl ?_
    refine XS.iconst X0.here hx rfl (hb hby d_method_2_16) ?_
    refine XS.icmpYes X0.here hx rfl (pc0 := 17) (pc' := 35) rfl (hb hby d_method_2_17) rfl (feq (by decide : ¬ ((2 : Int32) = (1 : Int32)))).2 (by decide) (by decide) ?_
    refine XS.iloadN X0.here hx rfl (hb hby d_method_2_35) rfl ?_
    refine XS.iconst X0.here hx rfl (hb hby d_method_2_36) ?_
    refine XS.icmpNo X0.here hx rfl (hb hby d_method_2_37) rfl (teq (by decide : (2 : Int32) = (2 : Int32))).2 ?_
    refine st1 _ ?_
    refine XS.dup X1.here hx rfl (hb hby d_method_2_43) rfl rfl ?_
    refine XS.iconst X1.here hx rfl (hb hby d_method_2_44) ?_
    refine st8 _ ?_
    refine XS.dup X8.here hx rfl (hb hby d_method_2_47) rfl rfl ?_
    refine XS.iconst X8.here hx rfl (hb hby d_method_2_48) ?_
    refine XS.iloadN X8.here hx rfl (hb hby d_method_2_49) rfl ?_
    refine st16 _ ?_
    refine XS.dup X16.here hx rfl (hb hby d_method_2_51) rfl rfl ?_
    refine XS.iconst X16.here hx rfl (hb hby d_method_2_52) ?_
    refine XS.iloadN X16.here hx rfl (hb hby d_method_2_53) rfl ?_
    refine st22 _ ?_
    refine st30.trans ?_
    exact retOut X30 hx Bd.returns rfl (Or.inr (Or.inr (Or.inr (Or.inr ⟨rfl, rfl, rfl⟩)))) (hb hby d_method_2_58) hr
  · show Q_rc34_make Z i1 i2 i3 h0 n0 _ T30.heap _
    exact ⟨b1, x30_x2_x3_x10_x1_b2, x30_x2_x3_x10_x1_k2, rfl, N30, K36, s3, s32, q30_0, q30_1, q30_2, q30_3⟩
def Q_rc47_isEmpty (Z : State) (a1 : Addr) (a2 : Addr) (k3 : ClassId) (i4 : Int32) (i5 : Int32) (i6 : Int32) (i7 : Int32) (h0 : Heap) (n0 : Nat) (v : Option Value) (h : Heap) (L : List Loc) : Prop := v = some (.int (0 : Int32)) ∧ Fr n0 L ∧ h = h0
set_option maxRecDepth 65536 in
set_option maxHeartbeats 40000000 in
theorem rc47_isEmpty (l : Launch) (Z : State) (a0 : Array Value) (hw : ∀ d ∈ tables_1, d.before a0 Z = true) (ws : List Jvm.Cond) (cs : Int32) (hS : SB Z cs) (a1 : Addr) (a2 : Addr) (k3 : ClassId) (i4 : Int32) (i5 : Int32) (i6 : Int32) (i7 : Int32) (h0 : Heap) (n0 : Nat) (O0 : Old Z n0 h0) (g_a1 : n0 ≤ a1) (g_a2 : n0 ≤ a2) (F_a1_value : Fld Z h0 a1 nString_0 "value" "[B" (.ref a2)) (V_a2 : Arv Z h0 a2 k3 .byte (4 : Int32) [(.int i4), (.int i5), (.int i6), (.int i7)] (.int (0 : Int32))) :
    Met l my_4 jdk_42_method_55_code 1 (some .boolean) ws ({ frames := 0, cells := 0, slots := 0, locals := 0 } : Room) #[(.ref a1)] Z h0 (Q_rc47_isEmpty Z a1 a2 k3 i4 i5 i6 i7 h0 n0) := by
  refine MetFree.of_bodySF (plainFor_of_name pn_1) hisR ?_
  intro p e s m args below meth c s₁ Bd hml0 hP hK
  obtain ⟨rfl, hZ, hh⟩ := hP
  have hx := Bd.exec
  have hby := Bd.bytes
  have hml : c.maxLocals = 1 := hml0
  have hown : s.vm.findClass nString_0 = some m.cls := findClass_of_methodNamed Bd.named
  have hnm := (name_of_methodNamed Bd.named Bd.method).1
  have X0 : Stand p l e ({ frames := 0, cells := 0, slots := 0, locals := 0 } : Room) s m #[(.ref a1)] below meth c s₁ [] 0 0 := Stand.of_body Bd
  have e0 : s₁.heap = h0 := by rw [← hh, Bd.state]; rfl
  have N0 := Fr.nil n0
  obtain ⟨f₀, hf₀⟩ : ∃ f, f = entryFrame m #[(.ref a1)] 1 := ⟨_, rfl⟩
  rw [← hf₀]
  have pre0 : Go p e below s₁ f₀ s₁ (mkF m 0 #[.val (.ref a1)] []) := fun t k => castTop (hf₀.trans (ef_rc47_isEmpty m (a1))) k
  obtain ⟨T1, X1, e1, st1⟩ := getF X0 hx hZ hown (host := "") (Or.inl (wq hw 25 rfl)) Via.refl e0 F_a1_value (g := (mkF m 1 #[.val (.ref a1)] [(.ref a1)])) rfl rfl (hb hby d_jdk_42_method_55_1)
  obtain ⟨c2, Ar2, q2, S2, M2, Hh2, G2⟩ := (id V_a2)
  obtain ⟨fs, hr, hrun, hended, hW, hsame⟩ := X1.leave (v := (some (.int (0 : Int32)))) (fun h => by rw [Bd.returns] at h; cases h)
  refine ⟨_, _, pre0 _ ?_, hrun, hended, _, _, rfl, ?_, ⟨_, rfl⟩, hW, hsame.mono (by decide) (by decide)⟩
  · refine XS.aloadN X0.here hx rfl (hb hby d_jdk_42_method_55_0) rfl rfl ?_
    refine st1 _ ?_
    refine X1.arraylength hx (by rw [e1]; exact Ar2.1) (State.isArrayOf_alike hZ.alike Ar2.2.1) (g := (mkF m 4 #[.val (.ref a1)] [(.ref a2)])) rfl rfl (hb hby d_jdk_42_method_55_4) _ ?_
    rw [len_of S2 M2]
    refine XS.ifYes X1.here hx rfl (pc0 := 5) (pc' := 12) rfl (hb hby d_jdk_42_method_55_5) rfl ((if0 _ _).trans (feq (by decide : ¬ ((4 : Int32) = (0 : Int32)))).2) (by decide) (by decide) ?_
    refine XS.iconst X1.here hx rfl (hb hby d_jdk_42_method_55_12) ?_
    exact retN X1 hx (t := .boolean) Bd.returns (by simp) (hb hby d_jdk_42_method_55_13) hr
  · show Q_rc47_isEmpty Z a1 a2 k3 i4 i5 i6 i7 h0 n0 _ T1.heap _
    rw [e1]
    exact ⟨rfl, N0, rfl⟩
def Q_rc46_traceAsked (Z : State) (a1 : Addr) (a2 : Addr) (k3 : ClassId) (i4 : Int32) (i5 : Int32) (i6 : Int32) (i7 : Int32) (h0 : Heap) (n0 : Nat) (v : Option Value) (h : Heap) (L : List Loc) : Prop := v = some (.int (1 : Int32)) ∧ Fr n0 L ∧ Keep h0 h []
set_option maxRecDepth 65536 in
set_option maxHeartbeats 40000000 in
theorem rc46_traceAsked (l : Launch) (Z : State) (a0 : Array Value) (hw : ∀ d ∈ tables_1, d.before a0 Z = true) (ws : List Jvm.Cond) (cs : Int32) (hS : SB Z cs) (a1 : Addr) (a2 : Addr) (k3 : ClassId) (i4 : Int32) (i5 : Int32) (i6 : Int32) (i7 : Int32) (h0 : Heap) (n0 : Nat) (O0 : Old Z n0 h0) (g_a1 : n0 ≤ a1) (g_a2 : n0 ≤ a2) (E_a1 : Exa Z h0 a1 nString_0) (F_a1_coder : Fld Z h0 a1 nString_0 "coder" "B" (.int (1 : Int32))) (F_a1_value : Fld Z h0 a1 nString_0 "value" "[B" (.ref a2)) (V_a2 : Arv Z h0 a2 k3 .byte (4 : Int32) [(.int i4), (.int i5), (.int i6), (.int i7)] (.int (0 : Int32))) :
    MetH l my_0 prog_17_method_2_code 1 (some .boolean) ws ({ frames := 1, cells := 2, slots := 8, locals := 14 } : Room) #[(.ref a1)] Z h0 [a1] (Q_rc46_traceAsked Z a1 a2 k3 i4 i5 i6 i7 h0 n0) := by
  refine MetFree.of_bodySF (plainFor_of_name pn_0) hisR ?_
  intro p e s m args below meth c s₁ Bd hml0 hP hK
  obtain ⟨rfl, hZ, hh, hCH⟩ := hP
  have hx := Bd.exec
  have hby := Bd.bytes
  have hml : c.maxLocals = 1 := hml0
  have hown : s.vm.findClass nUnfore_2 = some m.cls := findClass_of_methodNamed Bd.named
  have hnm := (name_of_methodNamed Bd.named Bd.method).1
  have X0 : Stand p l e ({ frames := 1, cells := 2, slots := 8, locals := 14 } : Room) (s.setVm s.vm) m #[(.ref a1)] below meth c s₁ [] 0 0 := Stand.of_body Bd
  have e0 : s₁.heap = h0 := by rw [← hh, Bd.state]; rfl
  have N0 := Fr.nil n0
  obtain ⟨f₀, hf₀⟩ : ∃ f, f = entryFrame m #[(.ref a1)] 1 := ⟨_, rfl⟩
  rw [← hf₀]
  have pre0 : Go p e below s₁ f₀ s₁ (mkF m 0 #[.val (.ref a1)] []) := fun t k => castTop (hf₀.trans (ef_rc46_traceAsked m (a1))) k
  have hZ0 : Z.Warmed39 (s.setVm s.vm).vm := hZ
  have hown0 : (s.setVm s.vm).vm.findClass nUnfore_2 = some m.cls := hown
  have hS0 : s.Since s.vm s.heap.size := (State.WarmedH.refl s).since _
  have hk0 : s.heap.size ≤ h0.size := by rw [hh]; exact Nat.le_refl _
  obtain ⟨cq1, kq1, q1a, q1b, q1c⟩ := isOf hZ0 e0 (E_a1)
  obtain ⟨_, _, ⟨T1, L1, k1, n1⟩, -, X1, ⟨Lc1, hQ1, l1, y1, z1⟩, st1⟩ := X0.virtualBack hx (y := my_4) (z := my_4) hown0 (mvT hZ0 (wq hw 31 rfl)) (mvT hZ0 (wq hw 32 rfl)) (notFace_of_selects (args := #[]) (mvT hZ0 (wq hw 34 rfl))) (mvT hZ0 (wq hw 34 rfl)) (mvT hZ0 (wq hw 33 rfl)) (by decide) (backOf (W := 0) (rc47_isEmpty l Z a0 hw [] cs hS a1 a2 k3 i4 i5 i6 i7 h0 n0 O0 g_a1 g_a2 F_a1_value V_a2) hZ0 (wq hw 35 rfl) (wq hw 7 rfl) (by decide) (by decide)) q1a q1c (g := (mkF m 5 #[.val (.ref a1)] [(.ref a1)])) rfl (by rw [hml]; rfl) (Steps.refl _) (argsL := []) (rest := []) (lenOf pd_4 rfl) rfl (by show 2 * 0 + _ ≤ _; exact Nat.le_of_eq rfl) (hb hby d_prog_17_method_2_5) (fun _ _ => ⟨rfl, e0, (by decide : 0 + 0 ≤ _), (by decide : 0 + 0 ≤ _)⟩)
  dsimp only [Pt.U, Pt.locs, Pt.cells, Pt.slots] at X1 l1 y1 z1 st1 hQ1
  have X1 := own_to X1 l1 y1 z1
  obtain ⟨rfl, N1q, e1⟩ := hQ1
  have N1 := Fr.app N0 N1q
  obtain ⟨sa2, T2, h2, k2, sb2, kc2, X2, e2, E2, hS2, hk2, hZ2, hown2, A2, Fc2, Fv2, Va2, la2, lb2, Cr2, Lt2, hne2, st2⟩ := ldcCH X1 hx hZ0 hown0 (wq hw 47 rfl) (own_wS hw) e1 hS0 hk0 (own_EL hw) (List.mem_of_getElem? (i := 0) rfl) hCH.1 (vs := [(.int (48 : Int32))]) (z := (1 : Int32)) ⟨by decide, rfl⟩ (by decide) rfl (g := (mkF m 12 #[.val (.ref a1)] [(.ref a1)])) rfl (hb hby d_prog_17_method_2_12) (n := 4) (by decide) (by decide) (by decide) (by decide)
  have O3 : Old Z n0 h2 := Old.ext O0 E2
  have K4 : Keep h0 h2 [] := (Keep.refl h0 []).ext E2
  have hk5 := Nat.le_trans hk0 E2.1
  have nn6 := hne2 a1 (Cr2.safe (hCH.2 a1 (List.mem_of_getElem? (i := 0) rfl)).1 (hCH.2 a1 (List.mem_of_getElem? (i := 0) rfl)).2)
  have t7 : Exa Z h2 a1 nString_0 := (E_a1.ext E2)
  have t8 : Fld Z h2 a1 nString_0 "coder" "B" (.int (1 : Int32)) := (F_a1_coder.ext E2)
  obtain ⟨cq9, kq9, q9a, q9b, q9c⟩ := isOf hZ2 e2 (t7)
  obtain ⟨_, _, ⟨T9, L9, k9, n9⟩, -, X9, ⟨Lc9, hQ9, l9, y9, z9⟩, st9⟩ := X2.virtualBack hx (y := my_13) (z := my_13) hown2 (mvT hZ2 (wq hw 48 rfl)) (mvT hZ2 (wq hw 49 rfl)) (notFace_of_selects (args := #[]) (mvT hZ2 (wq hw 51 rfl))) (mvT hZ2 (wq hw 51 rfl)) (mvT hZ2 (wq hw 50 rfl)) (by decide) (backOf (W := 0) (rc20_equals l Z a0 hw [] cs hS a1 sa2 h2 n0 O3 g_a1 t8 A2 Fc2 nn6.1) hZ2 (wq hw 52 rfl) (wq hw 7 rfl) (by decide) (by decide)) q9a q9c (g := (mkF m 14 #[.val (.ref a1)] [(.ref sa2), (.ref a1)])) rfl (by rw [hml]; rfl) (Steps.refl _) (argsL := [(.ref sa2)]) (rest := []) (lenOf pd_12 rfl) rfl (by show 2 * 0 + _ ≤ _; exact Nat.le_of_eq rfl) (hb hby d_prog_17_method_2_14) (fun _ _ => ⟨rfl, e2, (by decide : 2 + 0 ≤ _), (by decide : 8 + 0 ≤ _)⟩)
  dsimp only [Pt.U, Pt.locs, Pt.cells, Pt.slots] at X9 l9 y9 z9 st9 hQ9
  have X9 := own_to X9 l9 y9 z9
  obtain ⟨rfl, N9q, e9⟩ := hQ9
  have N9 := Fr.app N1 N9q
  obtain ⟨fs, hr, hrun, hended, hEW⟩ := Jvm.Stand.leaveW X9 hS2 (by rw [e9]; exact hk2) (v := (some (.int (1 : Int32)))) (fun h => by rw [Bd.returns] at h; cases h)
  refine ⟨_, _, pre0 _ ?_, hrun, hended, _, _, rfl, ?_, ⟨_, rfl⟩, hEW.2.1, hEW.2.2.1, hEW.2.2.2.mono (by decide) (by decide)⟩
  · refine XS.aloadN X0.here hx rfl (hb hby d_prog_17_method_2_0) rfl rfl ?_
    refine XS.ifnullNo X0.here hx rfl (hb hby d_prog_17_method_2_1) rfl ?_
    refine XS.aloadN X0.here hx rfl (hb hby d_prog_17_method_2_4) rfl rfl ?_
    refine st1.trans ?_
    refine XS.ifNo X1.here hx rfl (hb hby d_prog_17_method_2_8) rfl ((if0 _ _).trans (teq (by decide : (0 : Int32) = (0 : Int32))).2) ?_
    refine XS.aloadN X1.here hx rfl (hb hby d_prog_17_method_2_11) rfl rfl ?_
    refine st2 _ ?_
    refine st9.trans ?_
    refine XS.ifNo X9.here hx rfl (hb hby d_prog_17_method_2_17) rfl ((if0 _ _).trans (teq (by decide : (0 : Int32) = (0 : Int32))).2) ?_
    refine XS.iconst X9.here hx rfl (hb hby d_prog_17_method_2_20) ?_
    refine XS.goto X9.here hx rfl (pc0 := 21) (pc' := 25) rfl (hb hby d_prog_17_method_2_21) (by decide) (by decide) ?_
    exact retN X9 hx (t := .boolean) Bd.returns (by simp) (hb hby d_prog_17_method_2_25) hr
  · show Q_rc46_traceAsked Z a1 a2 k3 i4 i5 i6 i7 h0 n0 _ T9.heap _
    rw [e9]
    exact ⟨rfl, N9, K4⟩
def Q_rc52_compress (Z : State) (a1 : Addr) (a2 : Addr) (k3 : ClassId) (i4 : Int32) (i5 : Int32) (k6 : ClassId) (h0 : Heap) (n0 : Nat) (v : Option Value) (h : Heap) (L : List Loc) : Prop := v = some (.int (1 : Int32)) ∧ Fr n0 L ∧ Keep h0 h [a2] ∧ Arv Z h a2 k6 .byte (2 : Int32) [(.int (nar .byte (i4.toInt8.toInt32))), (.int (0 : Int32))] (.int (0 : Int32))
set_option maxRecDepth 65536 in
set_option maxHeartbeats 40000000 in
theorem rc52_compress (l : Launch) (Z : State) (a0 : Array Value) (hw : ∀ d ∈ tables_1, d.before a0 Z = true) (ws : List Jvm.Cond) (cs : Int32) (hS : SB Z cs) (a1 : Addr) (a2 : Addr) (k3 : ClassId) (i4 : Int32) (i5 : Int32) (k6 : ClassId) (h0 : Heap) (n0 : Nat) (O0 : Old Z n0 h0) (g_a1 : n0 ≤ a1) (g_a2 : n0 ≤ a2) (V_a1 : Arv Z h0 a1 k3 .char (2 : Int32) [(.int i4), (.int i5)] (.int (0 : Int32))) (V_a2 : Arv Z h0 a2 k6 .byte (2 : Int32) [(.int (0 : Int32)), (.int (0 : Int32))] (.int (0 : Int32))) (hy2 : ¬ (255 : Int32) < i4) (hy3 : (255 : Int32) < i5) (hy4 : ¬ a1 = a2) :
    Met l my_5 jdk_52_method_21_code 7 (some .int) ws ({ frames := 0, cells := 0, slots := 0, locals := 0 } : Room) #[(.ref a1), (.int (0 : Int32)), (.ref a2), (.int (0 : Int32)), (.int (2 : Int32))] Z h0 (Q_rc52_compress Z a1 a2 k3 i4 i5 k6 h0 n0) := by
  refine MetFree.of_bodySF (plainFor_of_name pn_3) hisR ?_
  intro p e s m args below meth c s₁ Bd hml0 hP hK
  obtain ⟨rfl, hZ, hh⟩ := hP
  have hx := Bd.exec
  have hby := Bd.bytes
  have hml : c.maxLocals = 7 := hml0
  have hown : s.vm.findClass nString_1 = some m.cls := findClass_of_methodNamed Bd.named
  have hnm := (name_of_methodNamed Bd.named Bd.method).1
  have X0 : Stand p l e ({ frames := 0, cells := 0, slots := 0, locals := 0 } : Room) s m #[(.ref a1), (.int (0 : Int32)), (.ref a2), (.int (0 : Int32)), (.int (2 : Int32))] below meth c s₁ [] 0 0 := Stand.of_body Bd
  have e0 : s₁.heap = h0 := by rw [← hh, Bd.state]; rfl
  have N0 := Fr.nil n0
  obtain ⟨f₀, hf₀⟩ : ∃ f, f = entryFrame m #[(.ref a1), (.int (0 : Int32)), (.ref a2), (.int (0 : Int32)), (.int (2 : Int32))] 7 := ⟨_, rfl⟩
  rw [← hf₀]
  have pre0 : Go p e below s₁ f₀ s₁ (mkF m 0 #[.val (.ref a1), .val (.int (0 : Int32)), .val (.ref a2), .val (.int (0 : Int32)), .val (.int (2 : Int32)), .unset, .unset] []) := fun t k => castTop (hf₀.trans (ef_rc52_compress m (a1) ((0 : Int32)) (a2) ((0 : Int32)) ((2 : Int32)))) k
  obtain ⟨c1, Ar1, q1, S1, M1, Hh1, G1⟩ := (id V_a1)
  have hin1 : ¬ ((0 : Int32) < 0 ∨ c1.slots.size ≤ ((0 : Int32)).toNatClampNeg) := inb_of S1 ⟨by decide, by decide⟩
  have hat1 : c1.slots[((0 : Int32)).toNatClampNeg]? = some (.int i4) := Hh1.at hin1 rfl
  obtain ⟨c2, Ar2, q2, S2, M2, Hh2, G2⟩ := (id V_a2)
  have hin2 : ¬ ((0 : Int32) < 0 ∨ c2.slots.size ≤ ((0 : Int32)).toNatClampNeg) := inb_of S2 ⟨by decide, by decide⟩
  obtain ⟨T3, h3, X3, e3, W3, st3⟩ := stB X0 hx hZ e0 Ar2 (j := (0 : Int32)) hin2 (g := (mkF m 31 #[.val (.ref a1), .val (.int (0 : Int32)), .val (.ref a2), .val (.int (0 : Int32)), .val (.int (2 : Int32)), .val (.int (0 : Int32)), .val (.int i4)] [(.int (i4.toInt8.toInt32)), (.int (0 : Int32)), (.ref a2)])) rfl rfl (hb hby d_jdk_52_method_21_31)
  have v4 : Arv Z h3 a2 k6 .byte (2 : Int32) [(.int (nar .byte (i4.toInt8.toInt32))), (.int (0 : Int32))] (.int (0 : Int32)) := Arv.set Ar2 q2 S2 M2 Hh2 G2 (fits_nar_byte _) W3 0 rfl (Nat.le_of_ble_eq_true rfl)
  have N3 := Fr.snoc X3 N0 g_a2
  have O5 : Old Z n0 h3 := Old.wr O0 W3 g_a2
  have K6 : Keep h0 h3 [a2] := (Keep.refl h0 [a2]).wr W3 (Or.inl (List.mem_of_getElem? (i := 0) rfl))
  have t7 : Arv Z h3 a1 k3 .char (2 : Int32) [(.int i4), (.int i5)] (.int (0 : Int32)) := (V_a1.other W3 hy4)
  obtain ⟨c8, Ar8, q8, S8, M8, Hh8, G8⟩ := (id t7)
  have hin8 : ¬ ((1 : Int32) < 0 ∨ c8.slots.size ≤ ((1 : Int32)).toNatClampNeg) := inb_of S8 ⟨by decide, by decide⟩
  have hat8 : c8.slots[((1 : Int32)).toNatClampNeg]? = some (.int i5) := Hh8.at hin8 rfl
  obtain ⟨fs, hr, hrun, hended, hW, hsame⟩ := X3.leave (v := (some (.int (1 : Int32)))) (fun h => by rw [Bd.returns] at h; cases h)
  refine ⟨_, _, pre0 _ ?_, hrun, hended, _, _, rfl, ?_, ⟨_, rfl⟩, hW, hsame.mono (by decide) (by decide)⟩
  · refine XS.iconst X0.here hx rfl (hb hby d_jdk_52_method_21_0) ?_
    refine XS.istore X0.here hx rfl (hb hby d_jdk_52_method_21_1) rfl (l' := #[.val (.ref a1), .val (.int (0 : Int32)), .val (.ref a2), .val (.int (0 : Int32)), .val (.int (2 : Int32)), .val (.int (0 : Int32)), .unset]) rfl ?_
    refine XS.iload X0.here hx rfl (hb hby d_jdk_52_method_21_3) rfl ?_
    refine XS.iload X0.here hx rfl (hb hby d_jdk_52_method_21_5) rfl ?_
    refine XS.icmpNo X0.here hx rfl (hb hby d_jdk_52_method_21_7) rfl (tlt (by decide : (0 : Int32) < (2 : Int32))).2.1 ?_
    refine XS.aloadN X0.here hx rfl (hb hby d_jdk_52_method_21_10) rfl rfl ?_
    refine XS.iloadN X0.here hx rfl (hb hby d_jdk_52_method_21_11) rfl ?_
    refine X0.caload hx (j := (0 : Int32)) (v := (.int i4)) (by rw [e0]; exact Ar1.1) (State.isArrayOf_alike hZ.alike Ar1.2.1) Ar1.2.2 hin1 hat1 (g := (mkF m 12 #[.val (.ref a1), .val (.int (0 : Int32)), .val (.ref a2), .val (.int (0 : Int32)), .val (.int (2 : Int32)), .val (.int (0 : Int32)), .unset] [(.int (0 : Int32)), (.ref a1)])) rfl rfl (hb hby d_jdk_52_method_21_12) _ ?_
    refine XS.istore X0.here hx rfl (hb hby d_jdk_52_method_21_13) rfl (l' := #[.val (.ref a1), .val (.int (0 : Int32)), .val (.ref a2), .val (.int (0 : Int32)), .val (.int (2 : Int32)), .val (.int (0 : Int32)), .val (.int i4)]) rfl ?_
    refine XS.iload X0.here hx rfl (hb hby d_jdk_52_method_21_15) rfl ?_
    refine XS.sipush X0.here hx rfl (hb hby d_jdk_52_method_21_17) ?_
    refine XS.icmpYes X0.here hx rfl (pc0 := 20) (pc' := 26) rfl (hb hby d_jdk_52_method_21_20) rfl (flt hy2).2.2.2 (by decide) (by decide) ?_
    refine XS.aloadN X0.here hx rfl (hb hby d_jdk_52_method_21_26) rfl rfl ?_
    refine XS.iloadN X0.here hx rfl (hb hby d_jdk_52_method_21_27) rfl ?_
    refine XS.iload X0.here hx rfl (hb hby d_jdk_52_method_21_28) rfl ?_
    refine XS.i2b X0.here hx rfl (hb hby d_jdk_52_method_21_30) rfl ?_
    refine st3 _ ?_
    refine XS.iinc X3.here hx rfl (hb hby d_jdk_52_method_21_32) rfl (l' := #[.val (.ref a1), .val (.int (1 : Int32)), .val (.ref a2), .val (.int (0 : Int32)), .val (.int (2 : Int32)), .val (.int (0 : Int32)), .val (.int i4)]) rfl ?_
    refine XS.iinc X3.here hx rfl (hb hby d_jdk_52_method_21_35) rfl (l' := #[.val (.ref a1), .val (.int (1 : Int32)), .val (.ref a2), .val (.int (1 : Int32)), .val (.int (2 : Int32)), .val (.int (0 : Int32)), .val (.int i4)]) rfl ?_
    refine XS.iinc X3.here hx rfl (hb hby d_jdk_52_method_21_38) rfl (l' := #[.val (.ref a1), .val (.int (1 : Int32)), .val (.ref a2), .val (.int (1 : Int32)), .val (.int (2 : Int32)), .val (.int (1 : Int32)), .val (.int i4)]) rfl ?_
    refine XS.goto X3.here hx rfl (pc0 := 41) (pc' := 3) rfl (hb hby d_jdk_52_method_21_41) (by decide) (by decide) ?_
    refine XS.iload X3.here hx rfl (hb hby d_jdk_52_method_21_3) rfl ?_
    refine XS.iload X3.here hx rfl (hb hby d_jdk_52_method_21_5) rfl ?_
    refine XS.icmpNo X3.here hx rfl (hb hby d_jdk_52_method_21_7) rfl (tlt (by decide : (1 : Int32) < (2 : Int32))).2.1 ?_
    refine XS.aloadN X3.here hx rfl (hb hby d_jdk_52_method_21_10) rfl rfl ?_
    refine XS.iloadN X3.here hx rfl (hb hby d_jdk_52_method_21_11) rfl ?_
    refine X3.caload hx (j := (1 : Int32)) (v := (.int i5)) (by rw [e3]; exact Ar8.1) (State.isArrayOf_alike hZ.alike Ar8.2.1) Ar8.2.2 hin8 hat8 (g := (mkF m 12 #[.val (.ref a1), .val (.int (1 : Int32)), .val (.ref a2), .val (.int (1 : Int32)), .val (.int (2 : Int32)), .val (.int (1 : Int32)), .val (.int i4)] [(.int (1 : Int32)), (.ref a1)])) rfl rfl (hb hby d_jdk_52_method_21_12) _ ?_
    refine XS.istore X3.here hx rfl (hb hby d_jdk_52_method_21_13) rfl (l' := #[.val (.ref a1), .val (.int (1 : Int32)), .val (.ref a2), .val (.int (1 : Int32)), .val (.int (2 : Int32)), .val (.int (1 : Int32)), .val (.int i5)]) rfl ?_
    refine XS.iload X3.here hx rfl (hb hby d_jdk_52_method_21_15) rfl ?_
    refine XS.sipush X3.here hx rfl (hb hby d_jdk_52_method_21_17) ?_
    refine XS.icmpNo X3.here hx rfl (hb hby d_jdk_52_method_21_20) rfl (tlt hy3).2.2.2 ?_
    refine XS.iload X3.here hx rfl (hb hby d_jdk_52_method_21_23) rfl ?_
    exact retI X3 hx Bd.returns (hb hby d_jdk_52_method_21_25) hr
  · show Q_rc52_compress Z a1 a2 k3 i4 i5 k6 h0 n0 _ T3.heap _
    rw [e3]
    exact ⟨rfl, N3, K6, v4⟩
def Q_rc53_getChar (Z : State) (a1 : Addr) (k2 : ClassId) (i3 : Int32) (i4 : Int32) (i5 : Int32) (i6 : Int32) (h0 : Heap) (n0 : Nat) (v : Option Value) (h : Heap) (L : List Loc) : Prop := v = some (.int (nar .char ((((i5 &&& (255 : Int32)) <<< ((0 : Int32) &&& 31)) ||| ((i6 &&& (255 : Int32)) <<< ((8 : Int32) &&& 31))).toUInt32.toUInt16.toUInt32.toInt32))) ∧ Fr n0 L ∧ h = h0
set_option maxRecDepth 65536 in
set_option maxHeartbeats 40000000 in
theorem rc53_getChar (l : Launch) (Z : State) (a0 : Array Value) (hw : ∀ d ∈ tables_1, d.before a0 Z = true) (ws : List Jvm.Cond) (cs : Int32) (hS : SB Z cs) (a1 : Addr) (k2 : ClassId) (i3 : Int32) (i4 : Int32) (i5 : Int32) (i6 : Int32) (h0 : Heap) (n0 : Nat) (O0 : Old Z n0 h0) (g_a1 : n0 ≤ a1) (V_a1 : Arv Z h0 a1 k2 .byte (4 : Int32) [(.int i3), (.int i4), (.int i5), (.int i6)] (.int (0 : Int32))) :
    Met l my_10 jdk_52_method_5_code 2 (some .char) ws ({ frames := 0, cells := 0, slots := 0, locals := 0 } : Room) #[(.ref a1), (.int (1 : Int32))] Z h0 (Q_rc53_getChar Z a1 k2 i3 i4 i5 i6 h0 n0) := by
  refine MetFree.of_bodySF (plainFor_of_name pn_3) hisR ?_
  intro p e s m args below meth c s₁ Bd hml0 hP hK
  obtain ⟨rfl, hZ, hh⟩ := hP
  have hx := Bd.exec
  have hby := Bd.bytes
  have hml : c.maxLocals = 2 := hml0
  have hown : s.vm.findClass nString_1 = some m.cls := findClass_of_methodNamed Bd.named
  have hnm := (name_of_methodNamed Bd.named Bd.method).1
  have X0 : Stand p l e ({ frames := 0, cells := 0, slots := 0, locals := 0 } : Room) s m #[(.ref a1), (.int (1 : Int32))] below meth c s₁ [] 0 0 := Stand.of_body Bd
  have e0 : s₁.heap = h0 := by rw [← hh, Bd.state]; rfl
  have N0 := Fr.nil n0
  obtain ⟨f₀, hf₀⟩ : ∃ f, f = entryFrame m #[(.ref a1), (.int (1 : Int32))] 2 := ⟨_, rfl⟩
  rw [← hf₀]
  have pre0 : Go p e below s₁ f₀ s₁ (mkF m 0 #[.val (.ref a1), .val (.int (1 : Int32))] []) := fun t k => castTop (hf₀.trans (ef_rc53_getChar m (a1) ((1 : Int32)))) k
  obtain ⟨T1, X1, e1, st1⟩ := getS2 X0 hx hZ hown (host := "") (Or.inl (wq hw 71 rfl)) Via.refl e0 (hS.2.2.1.ext O0.2) (g := (mkF m 0 #[.val (.ref a1), .val (.int (1 : Int32))] [])) rfl (hb hby d_jdk_52_method_5_0)
  obtain ⟨c2, Ar2, q2, S2, M2, Hh2, G2⟩ := (id V_a1)
  have hin2 : ¬ ((2 : Int32) < 0 ∨ c2.slots.size ≤ ((2 : Int32)).toNatClampNeg) := inb_of S2 ⟨by decide, by decide⟩
  have hat2 : c2.slots[((2 : Int32)).toNatClampNeg]? = some (.int i5) := Hh2.at hin2 rfl
  obtain ⟨T3, X3, e3, st3⟩ := getS2 X1 hx hZ hown (host := "") (Or.inl (wq hw 72 rfl)) Via.refl e1 (hS.2.2.2.1.ext O0.2) (g := (mkF m 42 #[.val (.ref a1), .val (.int (3 : Int32))] [(.int (i5 &&& (255 : Int32)))])) rfl (hb hby d_jdk_52_method_5_42)
  obtain ⟨c4, Ar4, q4, S4, M4, Hh4, G4⟩ := (id V_a1)
  have hin4 : ¬ ((3 : Int32) < 0 ∨ c4.slots.size ≤ ((3 : Int32)).toNatClampNeg) := inb_of S4 ⟨by decide, by decide⟩
  have hat4 : c4.slots[((3 : Int32)).toNatClampNeg]? = some (.int i6) := Hh4.at hin4 rfl
  obtain ⟨T5, X5, e5, st5⟩ := getS2 X3 hx hZ hown (host := "") (Or.inl (wq hw 73 rfl)) Via.refl e3 (hS.2.2.2.2.ext O0.2) (g := (mkF m 53 #[.val (.ref a1), .val (.int (3 : Int32))] [(.int (i6 &&& (255 : Int32))), (.int ((i5 &&& (255 : Int32)) <<< ((0 : Int32) &&& 31)))])) rfl (hb hby d_jdk_52_method_5_53)
  obtain ⟨fs, hr, hrun, hended, hW, hsame⟩ := X5.leave (v := (some (.int (nar .char ((((i5 &&& (255 : Int32)) <<< ((0 : Int32) &&& 31)) ||| ((i6 &&& (255 : Int32)) <<< ((8 : Int32) &&& 31))).toUInt32.toUInt16.toUInt32.toInt32))))) (fun h => by rw [Bd.returns] at h; cases h)
  refine ⟨_, _, pre0 _ ?_, hrun, hended, _, _, rfl, ?_, ⟨_, rfl⟩, hW, hsame.mono (by decide) (by decide)⟩
  · refine st1 _ ?_
    refine XS.ifYes X1.here hx rfl (pc0 := 3) (pc' := 28) rfl (hb hby d_jdk_52_method_5_3) rfl ((if0 _ _).trans (feq (by decide : ¬ ((1 : Int32) = (0 : Int32)))).2) (by decide) (by decide) ?_
    refine XS.iloadN X1.here hx rfl (hb hby d_jdk_52_method_5_28) rfl ?_
    refine XS.iconst X1.here hx rfl (hb hby d_jdk_52_method_5_29) ?_
    refine XS.ishl X1.here hx rfl (hb hby d_jdk_52_method_5_30) rfl ?_
    show Steps p.tables e below (T1.setTop (mkF m 31 #[.val (.ref a1), .val (.int (1 : Int32))] [(.int (2 : Int32))])) _
    refine XS.istoreN X1.here hx rfl (hb hby d_jdk_52_method_5_31) rfl (l' := #[.val (.ref a1), .val (.int (2 : Int32))]) rfl ?_
    refine XS.aloadN X1.here hx rfl (hb hby d_jdk_52_method_5_32) rfl rfl ?_
    refine XS.iloadN X1.here hx rfl (hb hby d_jdk_52_method_5_33) rfl ?_
    refine XS.iinc X1.here hx rfl (hb hby d_jdk_52_method_5_34) rfl (l' := #[.val (.ref a1), .val (.int (3 : Int32))]) rfl ?_
    refine X1.baloadBytes hx (j := (2 : Int32)) (v := (.int i5)) (by rw [e1]; exact Ar2.1) (State.isArrayOf_alike hZ.alike Ar2.2.1) Ar2.2.2 hin2 hat2 (g := (mkF m 37 #[.val (.ref a1), .val (.int (3 : Int32))] [(.int (2 : Int32)), (.ref a1)])) rfl rfl (hb hby d_jdk_52_method_5_37) _ ?_
    refine XS.sipush X1.here hx rfl (hb hby d_jdk_52_method_5_38) ?_
    refine XS.iand X1.here hx rfl (hb hby d_jdk_52_method_5_41) rfl ?_
    refine st3 _ ?_
    refine XS.ishl X3.here hx rfl (hb hby d_jdk_52_method_5_45) rfl ?_
    refine XS.aloadN X3.here hx rfl (hb hby d_jdk_52_method_5_46) rfl rfl ?_
    refine XS.iloadN X3.here hx rfl (hb hby d_jdk_52_method_5_47) rfl ?_
    refine X3.baloadBytes hx (j := (3 : Int32)) (v := (.int i6)) (by rw [e3]; exact Ar4.1) (State.isArrayOf_alike hZ.alike Ar4.2.1) Ar4.2.2 hin4 hat4 (g := (mkF m 48 #[.val (.ref a1), .val (.int (3 : Int32))] [(.int (3 : Int32)), (.ref a1), (.int ((i5 &&& (255 : Int32)) <<< ((0 : Int32) &&& 31)))])) rfl rfl (hb hby d_jdk_52_method_5_48) _ ?_
    refine XS.sipush X3.here hx rfl (hb hby d_jdk_52_method_5_49) ?_
    refine XS.iand X3.here hx rfl (hb hby d_jdk_52_method_5_52) rfl ?_
    refine st5 _ ?_
    refine XS.ishl X5.here hx rfl (hb hby d_jdk_52_method_5_56) rfl ?_
    refine XS.ior X5.here hx rfl (hb hby d_jdk_52_method_5_57) rfl ?_
    refine XS.i2c X5.here hx rfl (hb hby d_jdk_52_method_5_58) rfl ?_
    exact retN X5 hx (t := .char) Bd.returns (by simp) (hb hby d_jdk_52_method_5_59) hr
  · show Q_rc53_getChar Z a1 k2 i3 i4 i5 i6 h0 n0 _ T5.heap _
    rw [e5]
    exact ⟨rfl, N0, rfl⟩
def Q_rc51_compress (Z : State) (a1 : Addr) (k2 : ClassId) (i3 : Int32) (i4 : Int32) (h0 : Heap) (n0 : Nat) (v : Option Value) (h : Heap) (L : List Loc) : Prop := ∃ (x13_x1_b2 : Addr), ∃ (x13_x1_k2 : ClassId), v = some (.ref x13_x1_b2) ∧ Fr n0 L ∧ Keep h0 h [] ∧ h0.size ≤ x13_x1_b2 ∧ Arv Z h x13_x1_b2 x13_x1_k2 .byte (4 : Int32) [(.int (nar .byte ((i3 >>> ((0 : Int32) &&& 31)).toInt8.toInt32))), (.int (nar .byte ((i3 >>> ((8 : Int32) &&& 31)).toInt8.toInt32))), (.int (nar .byte ((i4 >>> ((0 : Int32) &&& 31)).toInt8.toInt32))), (.int (nar .byte ((i4 >>> ((8 : Int32) &&& 31)).toInt8.toInt32)))] (.int (0 : Int32))
set_option maxRecDepth 65536 in
set_option maxHeartbeats 40000000 in
theorem rc51_compress (l : Launch) (Z : State) (a0 : Array Value) (hw : ∀ d ∈ tables_1, d.before a0 Z = true) (ws : List Jvm.Cond) (cs : Int32) (hS : SB Z cs) (a1 : Addr) (k2 : ClassId) (i3 : Int32) (i4 : Int32) (h0 : Heap) (n0 : Nat) (O0 : Old Z n0 h0) (g_a1 : n0 ≤ a1) (V_a1 : Arv Z h0 a1 k2 .char (2 : Int32) [(.int i3), (.int i4)] (.int (0 : Int32))) (hy1 : nar .char i4 = i4) (hy2 : ¬ (255 : Int32) < i3) (hy3 : (255 : Int32) < i4) :
    Met l my_11 jdk_52_method_16_code 6 (some (.array .byte)) ws ({ frames := 3, cells := 2, slots := 6, locals := 40 } : Room) #[(.ref a1), (.int (0 : Int32)), (.int (2 : Int32))] Z h0 (Q_rc51_compress Z a1 k2 i3 i4 h0 n0) := by
  refine MetFree.of_bodySF (plainFor_of_name pn_3) hisR ?_
  intro p e s m args below meth c s₁ Bd hml0 hP hK
  obtain ⟨rfl, hZ, hh⟩ := hP
  have hx := Bd.exec
  have hby := Bd.bytes
  have hml : c.maxLocals = 6 := hml0
  have hown : s.vm.findClass nString_1 = some m.cls := findClass_of_methodNamed Bd.named
  have hnm := (name_of_methodNamed Bd.named Bd.method).1
  have X0 : Stand p l e ({ frames := 3, cells := 2, slots := 6, locals := 40 } : Room) s m #[(.ref a1), (.int (0 : Int32)), (.int (2 : Int32))] below meth c s₁ [] 0 0 := Stand.of_body Bd
  have e0 : s₁.heap = h0 := by rw [← hh, Bd.state]; rfl
  have N0 := Fr.nil n0
  obtain ⟨f₀, hf₀⟩ : ∃ f, f = entryFrame m #[(.ref a1), (.int (0 : Int32)), (.int (2 : Int32))] 6 := ⟨_, rfl⟩
  rw [← hf₀]
  have pre0 : Go p e below s₁ f₀ s₁ (mkF m 0 #[.val (.ref a1), .val (.int (0 : Int32)), .val (.int (2 : Int32)), .unset, .unset, .unset] []) := fun t k => castTop (hf₀.trans (ef_rc51_compress m (a1) ((0 : Int32)) ((2 : Int32)))) k
  obtain ⟨T1, h1, k1, X1, e1, E1, A1, st1⟩ := newP X0 hx hZ (wq hw 20 rfl) e0 (g := (mkF m 1 #[.val (.ref a1), .val (.int (0 : Int32)), .val (.int (2 : Int32)), .unset, .unset, .unset] [(.int (2 : Int32))])) rfl (hb hby d_jdk_52_method_16_1) rfl (by decide) (cap := 2) (by decide) (by decide) (by decide) (by decide)
  obtain ⟨b1, gb1⟩ : ∃ z, z = h0.size := ⟨_, rfl⟩
  rw [← gb1] at A1 st1
  have ne2 : a1 ≠ b1 := Nat.ne_of_lt (Nat.lt_of_lt_of_le V_a1.lt (Nat.le_of_eq gb1.symm))
  have g3 : n0 ≤ b1 := Nat.le_trans (Nat.le_of_eq O0.1.symm) (Nat.le_trans O0.2.1 (Nat.le_of_eq gb1.symm))
  have s4 : h0.size ≤ b1 := Nat.le_trans (Keep.refl h0 []).1 (Nat.le_of_eq gb1.symm)
  have O5 : Old Z n0 h1 := Old.ext O0 E1
  have K6 : Keep h0 h1 [] := (Keep.refl h0 []).ext E1
  have v7 : Arv Z h1 b1 k1 .byte (2 : Int32) [(.int (0 : Int32)), (.int (0 : Int32))] (.int (0 : Int32)) := (Arv.new A1 (by decide)).pad (pad_rep [] (.int (0 : Int32)) 2)
  have t8 : Arv Z h1 a1 k2 .char (2 : Int32) [(.int i3), (.int i4)] (.int (0 : Int32)) := (V_a1.ext E1)
  obtain ⟨_, _, ⟨T9, L9, k9, n9⟩, -, X9, ⟨Lc9, hQ9, l9, y9, z9⟩, st9⟩ := Jvm.LawKit.callS X1 hx (y := my_5) hown (mvT hZ (wq hw 41 rfl)) (mvT hZ (wq hw 42 rfl)) (mvT hZ (wq hw 39 rfl)) (mvT hZ (wq hw 43 rfl)) (by decide) (backOf (W := 0) (rc52_compress l Z a0 hw [] cs hS a1 b1 k2 i3 i4 k1 h1 n0 O5 g_a1 g3 t8 v7 hy2 hy3 ne2) hZ (wq hw 43 rfl) (wq hw 39 rfl) (by decide) (by decide)) (g := (mkF m 9 #[.val (.ref a1), .val (.int (0 : Int32)), .val (.int (2 : Int32)), .val (.ref b1), .unset, .unset] [(.int (2 : Int32)), (.int (0 : Int32)), (.ref b1), (.int (0 : Int32)), (.ref a1)])) rfl (by rw [hml]; rfl) (argsL := [(.ref a1), (.int (0 : Int32)), (.ref b1), (.int (0 : Int32)), (.int (2 : Int32))]) (rest := []) (lenOf pd_5 rfl) rfl (by show 2 * 0 + _ ≤ _; exact Nat.le_of_eq rfl) (hb hby d_jdk_52_method_16_9) (fun _ _ => ⟨rfl, e1, (by decide : 1 + 0 ≤ _), (by decide : 2 + 0 ≤ _)⟩)
  dsimp only [Pt.U, Pt.locs, Pt.cells, Pt.slots] at X9 l9 y9 z9 st9 hQ9
  have X9 := own_to X9 l9 y9 z9
  obtain ⟨rfl, N9q, K9, q9_0⟩ := hQ9
  have N9 := Fr.app N0 N9q
  have O10 : Old Z n0 T9.heap := Old.keep O5 K9 (allS g3 all0)
  have K11 : Keep h0 T9.heap [] := K6.trans K9 (allS (Or.inr s4) all0)
  have t12 : Arv Z T9.heap a1 k2 .char (2 : Int32) [(.int i3), (.int i4)] (.int (0 : Int32)) := (t8.keep K9 (ninS ne2 nin0))
  obtain ⟨_, _, ⟨T13, L13, k13, n13⟩, -, X13, ⟨Lc13, hQ13, l13, y13, z13⟩, st13⟩ := Jvm.LawKit.callS X9 hx (y := my_9) hown (mvT hZ (wq hw 58 rfl)) (mvT hZ (wq hw 59 rfl)) (mvT hZ (wq hw 39 rfl)) (mvT hZ (wq hw 60 rfl)) (by decide) (backOf (W := 0) (rc39_toBytes l Z a0 hw [] cs hS a1 k2 i3 i4 T9.heap n0 O10 g_a1 t12) hZ (wq hw 60 rfl) (wq hw 39 rfl) (by decide) (by decide)) (g := (mkF m 23 #[.val (.ref a1), .val (.int (0 : Int32)), .val (.int (2 : Int32)), .val (.ref b1), .val (.int (1 : Int32)), .unset] [(.int (2 : Int32)), (.int (0 : Int32)), (.ref a1)])) rfl (by rw [hml]; rfl) (argsL := [(.ref a1), (.int (0 : Int32)), (.int (2 : Int32))]) (rest := []) (lenOf pd_9 rfl) rfl (by show 2 * 0 + _ ≤ _; exact Nat.le_of_eq rfl) (hb hby d_jdk_52_method_16_23) (fun _ _ => ⟨rfl, rfl, (by decide : 1 + 1 ≤ _), (by decide : 2 + 4 ≤ _)⟩)
  dsimp only [Pt.U, Pt.locs, Pt.cells, Pt.slots] at X13 l13 y13 z13 st13 hQ13
  have X13 := own_to X13 l13 y13 z13
  obtain ⟨x13_x1_b2, x13_x1_k2, rfl, N13q, K13, sz13_x1_b2, q13_0⟩ := hQ13
  have N13 := Fr.app N9 N13q
  have g14 : n0 ≤ x13_x1_b2 := Nat.le_trans (Nat.le_of_eq O10.1.symm) (Nat.le_trans O10.2.1 sz13_x1_b2)
  have s15 : h0.size ≤ x13_x1_b2 := Nat.le_trans K11.1 sz13_x1_b2
  have ne16 : a1 ≠ x13_x1_b2 := Nat.ne_of_lt (Nat.lt_of_lt_of_le t12.lt sz13_x1_b2)
  have ne17 : b1 ≠ x13_x1_b2 := Nat.ne_of_lt (Nat.lt_of_lt_of_le q9_0.lt sz13_x1_b2)
  have O18 : Old Z n0 T13.heap := Old.keep O10 K13 all0
  have K19 : Keep h0 T13.heap [] := K11.trans K13 all0
  obtain ⟨_, _, ⟨T20, L20, k20, n20⟩, -, X20, ⟨Lc20, hQ20, l20, y20, z20⟩, st20⟩ := Jvm.LawKit.callS X13 hx (y := my_10) hown (mvT hZ (wq hw 74 rfl)) (mvT hZ (wq hw 75 rfl)) (mvT hZ (wq hw 39 rfl)) (mvT hZ (wq hw 76 rfl)) (by decide) (backOf (W := 0) (rc53_getChar l Z a0 hw [] cs hS x13_x1_b2 x13_x1_k2 (nar .byte ((i3 >>> ((0 : Int32) &&& 31)).toInt8.toInt32)) (nar .byte ((i3 >>> ((8 : Int32) &&& 31)).toInt8.toInt32)) (nar .byte ((i4 >>> ((0 : Int32) &&& 31)).toInt8.toInt32)) (nar .byte ((i4 >>> ((8 : Int32) &&& 31)).toInt8.toInt32)) T13.heap n0 O18 g14 q13_0) hZ (wq hw 76 rfl) (wq hw 39 rfl) (by decide) (by decide)) (g := (mkF m 32 #[.val (.ref a1), .val (.int (0 : Int32)), .val (.int (2 : Int32)), .val (.ref b1), .val (.int (1 : Int32)), .val (.ref x13_x1_b2)] [(.int (1 : Int32)), (.ref x13_x1_b2)])) rfl (by rw [hml]; rfl) (argsL := [(.ref x13_x1_b2), (.int (1 : Int32))]) (rest := []) (lenOf pd_10 rfl) rfl (by show 2 * 0 + _ ≤ _; exact Nat.le_of_eq rfl) (hb hby d_jdk_52_method_16_32) (fun _ _ => ⟨rfl, rfl, (by decide : 2 + 0 ≤ _), (by decide : 6 + 0 ≤ _)⟩)
  dsimp only [Pt.U, Pt.locs, Pt.cells, Pt.slots] at X20 l20 y20 z20 st20 hQ20
  have X20 := own_to X20 l20 y20 z20
  obtain ⟨rfl, N20q, e20⟩ := hQ20
  have N20 := Fr.app N13 N20q
  obtain ⟨fs, hr, hrun, hended, hW, hsame⟩ := X20.leave (v := (some (.ref x13_x1_b2))) (fun h => by rw [Bd.returns] at h; cases h)
  refine ⟨_, _, pre0 _ ?_, hrun, hended, _, _, rfl, ?_, ⟨_, rfl⟩, hW, hsame.mono (by decide) (by decide)⟩
  · refine XS.iloadN X0.here hx rfl (hb hby d_jdk_52_method_16_0) rfl ?_
    refine st1 _ ?_
    refine XS.astoreN X1.here hx rfl (hb hby d_jdk_52_method_16_3) rfl rfl (l' := #[.val (.ref a1), .val (.int (0 : Int32)), .val (.int (2 : Int32)), .val (.ref b1), .unset, .unset]) rfl ?_
    refine XS.aloadN X1.here hx rfl (hb hby d_jdk_52_method_16_4) rfl rfl ?_
    refine XS.iloadN X1.here hx rfl (hb hby d_jdk_52_method_16_5) rfl ?_
    refine XS.aloadN X1.here hx rfl (hb hby d_jdk_52_method_16_6) rfl rfl ?_
    refine XS.iconst X1.here hx rfl (hb hby d_jdk_52_method_16_7) ?_
    refine XS.iloadN X1.here hx rfl (hb hby d_jdk_52_method_16_8) rfl ?_
    refine st9 _ ?_
    refine XS.istore X9.here hx rfl (hb hby d_jdk_52_method_16_12) rfl (l' := #[.val (.ref a1), .val (.int (0 : Int32)), .val (.int (2 : Int32)), .val (.ref b1), .val (.int (1 : Int32)), .unset]) rfl ?_
    refine XS.iload X9.here hx rfl (hb hby d_jdk_52_method_16_14) rfl ?_
    refine XS.iloadN X9.here hx rfl (hb hby d_jdk_52_method_16_16) rfl ?_
    refine XS.icmpNo X9.here hx rfl (hb hby d_jdk_52_method_16_17) rfl (feq (by decide : ¬ ((1 : Int32) = (2 : Int32)))).1 ?_
    refine XS.aloadN X9.here hx rfl (hb hby d_jdk_52_method_16_20) rfl rfl ?_
    refine XS.iloadN X9.here hx rfl (hb hby d_jdk_52_method_16_21) rfl ?_
    refine XS.iloadN X9.here hx rfl (hb hby d_jdk_52_method_16_22) rfl ?_
    refine st13 _ ?_
    refine XS.astore X13.here hx rfl (hb hby d_jdk_52_method_16_26) rfl rfl (l' := #[.val (.ref a1), .val (.int (0 : Int32)), .val (.int (2 : Int32)), .val (.ref b1), .val (.int (1 : Int32)), .val (.ref x13_x1_b2)]) rfl ?_
    refine XS.aload X13.here hx rfl (hb hby d_jdk_52_method_16_28) rfl rfl ?_
    refine XS.iload X13.here hx rfl (hb hby d_jdk_52_method_16_30) rfl ?_
    refine st20 _ ?_
    refine XS.sipush X20.here hx rfl (hb hby d_jdk_52_method_16_35) ?_
    refine XS.icmpYes X20.here hx rfl (pc0 := 38) (pc' := 54) rfl (hb hby d_jdk_52_method_16_38) rfl (tlt (own_getc hy1 hy3)).2.2.1 (by decide) (by decide) ?_
    refine XS.aload X20.here hx rfl (hb hby d_jdk_52_method_16_54) rfl rfl ?_
    exact retOut X20 hx Bd.returns rfl (Or.inr (Or.inr (Or.inr (Or.inr ⟨rfl, rfl, rfl⟩)))) (hb hby d_jdk_52_method_16_56) hr
  · show Q_rc51_compress Z a1 k2 i3 i4 h0 n0 _ T20.heap _
    rw [e20]
    exact ⟨x13_x1_b2, x13_x1_k2, rfl, N20, K19, s15, q13_0⟩
def Q_rc50_init (Z : State) (a1 : Addr) (a2 : Addr) (k3 : ClassId) (i4 : Int32) (i5 : Int32) (h0 : Heap) (n0 : Nat) (v : Option Value) (h : Heap) (L : List Loc) : Prop := ∃ (x3_x13_x1_b2 : Addr), ∃ (x3_x13_x1_k2 : ClassId), v = none ∧ Fr n0 L ∧ Keep h0 h [a1] ∧ h0.size ≤ x3_x13_x1_b2 ∧ Exa Z h a1 nString_0 ∧ Fld Z h a1 nString_0 "coder" "B" (.int (1 : Int32)) ∧ Fld Z h a1 nString_0 "value" "[B" (.ref x3_x13_x1_b2) ∧ Arv Z h x3_x13_x1_b2 x3_x13_x1_k2 .byte (4 : Int32) [(.int (nar .byte ((i4 >>> ((0 : Int32) &&& 31)).toInt8.toInt32))), (.int (nar .byte ((i4 >>> ((8 : Int32) &&& 31)).toInt8.toInt32))), (.int (nar .byte ((i5 >>> ((0 : Int32) &&& 31)).toInt8.toInt32))), (.int (nar .byte ((i5 >>> ((8 : Int32) &&& 31)).toInt8.toInt32)))] (.int (0 : Int32))
set_option maxRecDepth 65536 in
set_option maxHeartbeats 40000000 in
theorem rc50_init (l : Launch) (Z : State) (a0 : Array Value) (hw : ∀ d ∈ tables_1, d.before a0 Z = true) (ws : List Jvm.Cond) (cs : Int32) (hS : SB Z cs) (a1 : Addr) (a2 : Addr) (k3 : ClassId) (i4 : Int32) (i5 : Int32) (h0 : Heap) (n0 : Nat) (O0 : Old Z n0 h0) (g_a1 : n0 ≤ a1) (g_a2 : n0 ≤ a2) (E_a1 : Exa Z h0 a1 nString_0) (F_a1_coder : Fld Z h0 a1 nString_0 "coder" "B" (.int (0 : Int32))) (F_a1_value : Fld Z h0 a1 nString_0 "value" "[B" .null) (V_a2 : Arv Z h0 a2 k3 .char (2 : Int32) [(.int i4), (.int i5)] (.int (0 : Int32))) (hy1 : nar .char i5 = i5) (hy2 : ¬ (255 : Int32) < i4) (hy3 : (255 : Int32) < i5) :
    Met l my_1 jdk_42_method_149_code 6 none ws ({ frames := 4, cells := 2, slots := 6, locals := 57 } : Room) #[(.ref a1), (.ref a2), (.int (0 : Int32)), (.int (2 : Int32)), .null] Z h0 (Q_rc50_init Z a1 a2 k3 i4 i5 h0 n0) := by
  refine MetFree.of_bodySF (plainFor_of_name pn_1) hisR ?_
  intro p e s m args below meth c s₁ Bd hml0 hP hK
  obtain ⟨rfl, hZ, hh⟩ := hP
  have hx := Bd.exec
  have hby := Bd.bytes
  have hml : c.maxLocals = 6 := hml0
  have hown : s.vm.findClass nString_0 = some m.cls := findClass_of_methodNamed Bd.named
  have hnm := (name_of_methodNamed Bd.named Bd.method).1
  have X0 : Stand p l e ({ frames := 4, cells := 2, slots := 6, locals := 57 } : Room) s m #[(.ref a1), (.ref a2), (.int (0 : Int32)), (.int (2 : Int32)), .null] below meth c s₁ [] 0 0 := Stand.of_body Bd
  have e0 : s₁.heap = h0 := by rw [← hh, Bd.state]; rfl
  have N0 := Fr.nil n0
  obtain ⟨f₀, hf₀⟩ : ∃ f, f = entryFrame m #[(.ref a1), (.ref a2), (.int (0 : Int32)), (.int (2 : Int32)), .null] 6 := ⟨_, rfl⟩
  rw [← hf₀]
  have pre0 : Go p e below s₁ f₀ s₁ (mkF m 0 #[.val (.ref a1), .val (.ref a2), .val (.int (0 : Int32)), .val (.int (2 : Int32)), .val .null, .unset] []) := fun t k => castTop (hf₀.trans (ef_rc50_init m (a1) (a2) ((0 : Int32)) ((2 : Int32)))) k
  obtain ⟨T1, X1, e1, st1⟩ := initO X0 hx hZ hown (wq hw 16 rfl) (wq hw 17 rfl) (wq hw 18 rfl) e0 (g := (mkF m 1 #[.val (.ref a1), .val (.ref a2), .val (.int (0 : Int32)), .val (.int (2 : Int32)), .val .null, .unset] [(.ref a1)])) rfl (by rw [hml]; rfl) rfl (hb hby d_jdk_42_method_149_1) (by decide) (W := 0) (by show 2 * 0 + _ ≤ _; exact Nat.le_of_eq rfl) (by decide)
  obtain ⟨T2, X2, e2, st2⟩ := getS2 X1 hx hZ hown (host := "") (Or.inl (wq hw 36 rfl)) Via.refl e1 (hS.1.ext O0.2) (g := (mkF m 27 #[.val (.ref a1), .val (.ref a2), .val (.int (0 : Int32)), .val (.int (2 : Int32)), .val .null, .unset] [])) rfl (hb hby d_jdk_42_method_149_27)
  obtain ⟨_, _, ⟨T3, L3, k3, n3⟩, -, X3, ⟨Lc3, hQ3, l3, y3, z3⟩, st3⟩ := Jvm.LawKit.callS X2 hx (y := my_11) hown (mvT hZ (wq hw 37 rfl)) (mvT hZ (wq hw 38 rfl)) (mvT hZ (wq hw 39 rfl)) (mvT hZ (wq hw 40 rfl)) (by decide) (backOf (W := 0) (rc51_compress l Z a0 hw [] cs hS a2 k3 i4 i5 h0 n0 O0 g_a2 V_a2 hy1 hy2 hy3) hZ (wq hw 40 rfl) (wq hw 39 rfl) (by decide) (by decide)) (g := (mkF m 36 #[.val (.ref a1), .val (.ref a2), .val (.int (0 : Int32)), .val (.int (2 : Int32)), .val .null, .unset] [(.int (2 : Int32)), (.int (0 : Int32)), (.ref a2)])) rfl (by rw [hml]; rfl) (argsL := [(.ref a2), (.int (0 : Int32)), (.int (2 : Int32))]) (rest := []) (lenOf pd_9 rfl) rfl (by show 2 * 0 + _ ≤ _; exact Nat.le_of_eq rfl) (hb hby d_jdk_42_method_149_36) (fun _ _ => ⟨rfl, e2, (by decide : 0 + 2 ≤ _), (by decide : 0 + 6 ≤ _)⟩)
  dsimp only [Pt.U, Pt.locs, Pt.cells, Pt.slots] at X3 l3 y3 z3 st3 hQ3
  have X3 := own_to X3 l3 y3 z3
  obtain ⟨x3_x13_x1_b2, x3_x13_x1_k2, rfl, N3q, K3, sz3_x13_x1_b2, q3_0⟩ := hQ3
  have N3 := Fr.app N0 N3q
  have g4 : n0 ≤ x3_x13_x1_b2 := Nat.le_trans (Nat.le_of_eq O0.1.symm) (Nat.le_trans O0.2.1 sz3_x13_x1_b2)
  have s5 : h0.size ≤ x3_x13_x1_b2 := Nat.le_trans (Keep.refl h0 [a1]).1 sz3_x13_x1_b2
  have ne6 : a1 ≠ x3_x13_x1_b2 := Nat.ne_of_lt (Nat.lt_of_lt_of_le E_a1.lt sz3_x13_x1_b2)
  have ne7 : a2 ≠ x3_x13_x1_b2 := Nat.ne_of_lt (Nat.lt_of_lt_of_le V_a2.lt sz3_x13_x1_b2)
  have O8 : Old Z n0 T3.heap := Old.keep O0 K3 all0
  have K9 : Keep h0 T3.heap [a1] := (Keep.refl h0 [a1]).trans K3 all0
  obtain ⟨_, _, ⟨T10, L10, k10, n10⟩, -, X10, ⟨Lc10, hQ10, l10, y10, z10⟩, st10⟩ := Jvm.LawKit.callS X3 hx (y := my_12) hown (mvT hZ (wq hw 44 rfl)) (mvT hZ (wq hw 45 rfl)) (mvT hZ (wq hw 39 rfl)) (mvT hZ (wq hw 46 rfl)) (by decide) (backOf (W := 1) (rc45_coderFromArrayLen l Z a0 hw [] cs hS x3_x13_x1_b2 x3_x13_x1_k2 (nar .byte ((i4 >>> ((0 : Int32) &&& 31)).toInt8.toInt32)) (nar .byte ((i4 >>> ((8 : Int32) &&& 31)).toInt8.toInt32)) (nar .byte ((i5 >>> ((0 : Int32) &&& 31)).toInt8.toInt32)) (nar .byte ((i5 >>> ((8 : Int32) &&& 31)).toInt8.toInt32)) T3.heap n0 O8 g4 q3_0) hZ (wq hw 46 rfl) (wq hw 39 rfl) (by decide) (by decide)) (g := (mkF m 45 #[.val (.ref a1), .val (.ref a2), .val (.int (0 : Int32)), .val (.int (2 : Int32)), .val .null, .val (.ref x3_x13_x1_b2)] [(.int (2 : Int32)), (.ref x3_x13_x1_b2), (.ref a1)])) rfl (by rw [hml]; rfl) (argsL := [(.ref x3_x13_x1_b2), (.int (2 : Int32))]) (rest := [(.ref a1)]) (lenOf pd_11 rfl) rfl (by show 2 * 0 + _ ≤ _; exact Nat.le_of_eq rfl) (hb hby d_jdk_42_method_149_45) (fun _ _ => ⟨rfl, rfl, (by decide : 2 + 0 ≤ _), (by decide : 6 + 0 ≤ _)⟩)
  dsimp only [Pt.U, Pt.locs, Pt.cells, Pt.slots] at X10 l10 y10 z10 st10 hQ10
  have X10 := own_to X10 l10 y10 z10
  obtain ⟨rfl, N10q, e10⟩ := hQ10
  have N10 := Fr.app N3 N10q
  have t11 : Exa Z T3.heap a1 nString_0 := (E_a1.keep K3)
  have t12 : Fld Z T3.heap a1 nString_0 "coder" "B" (.int (0 : Int32)) := (F_a1_coder.keep K3 nin0)
  obtain ⟨T13, h13, X13, e13, W13, st13⟩ := putFN X10 hx hZ hown (wq hw 26 rfl) Via.refl e10 t12 t11 (Or.inr ⟨(wq hw 22 rfl), rfl, hnm⟩) (wq hw 6 rfl) (ty := .byte) (v' := (.int (1 : Int32))) (by decide) rfl (by decide +kernel) (g := (mkF m 48 #[.val (.ref a1), .val (.ref a2), .val (.int (0 : Int32)), .val (.int (2 : Int32)), .val .null, .val (.ref x3_x13_x1_b2)] [(.int (1 : Int32)), (.ref a1)])) rfl rfl (hb hby d_jdk_42_method_149_48)
  have f14 : Fld Z h13 a1 nString_0 "coder" "B" (.int (1 : Int32)) := t12.same W13
  have N13 := Fr.snoc X13 N10 g_a1
  have O15 : Old Z n0 h13 := Old.wr O8 W13 g_a1
  have K16 : Keep h0 h13 [a1] := K9.wr W13 (Or.inl (List.mem_of_getElem? (i := 0) rfl))
  have t17 : Exa Z h13 a1 nString_0 := (t11.wr W13)
  have t18 : Fld Z h13 a1 nString_0 "value" "[B" .null := ((F_a1_value.keep K3 nin0).other W13 (Or.inr (slot_ne (Or.inr (wq hw 21 rfl)) (Or.inr (wq hw 22 rfl)) (by decide) (t := (.array .byte)) (t' := .byte) (by decide) (by decide))))
  obtain ⟨T19, h19, X19, e19, W19, st19⟩ := putF X13 hx hZ hown (host := "") (Or.inl (wq hw 25 rfl)) Via.refl e13 t18 t17 (Or.inr ⟨(wq hw 21 rfl), rfl, hnm⟩) (wq hw 6 rfl) (ty := (.array .byte)) (by decide) rfl rfl (g := (mkF m 54 #[.val (.ref a1), .val (.ref a2), .val (.int (0 : Int32)), .val (.int (2 : Int32)), .val .null, .val (.ref x3_x13_x1_b2)] [(.ref x3_x13_x1_b2), (.ref a1)])) rfl rfl (hb hby d_jdk_42_method_149_54)
  have f20 : Fld Z h19 a1 nString_0 "value" "[B" (.ref x3_x13_x1_b2) := t18.same W19
  have N19 := Fr.snoc X19 N13 g_a1
  have O21 : Old Z n0 h19 := Old.wr O15 W19 g_a1
  have K22 : Keep h0 h19 [a1] := K16.wr W19 (Or.inl (List.mem_of_getElem? (i := 0) rfl))
  have t23 : Exa Z h19 a1 nString_0 := (t17.wr W19)
  have t24 : Fld Z h19 a1 nString_0 "coder" "B" (.int (1 : Int32)) := (f14.other W19 (Or.inr (slot_ne (Or.inr (wq hw 22 rfl)) (Or.inr (wq hw 21 rfl)) (by decide) (t := .byte) (t' := (.array .byte)) (by decide) (by decide))))
  have t25 : Arv Z h19 x3_x13_x1_b2 x3_x13_x1_k2 .byte (4 : Int32) [(.int (nar .byte ((i4 >>> ((0 : Int32) &&& 31)).toInt8.toInt32))), (.int (nar .byte ((i4 >>> ((8 : Int32) &&& 31)).toInt8.toInt32))), (.int (nar .byte ((i5 >>> ((0 : Int32) &&& 31)).toInt8.toInt32))), (.int (nar .byte ((i5 >>> ((8 : Int32) &&& 31)).toInt8.toInt32)))] (.int (0 : Int32)) := ((q3_0.other W13 (Ne.symm ne6)).other W19 (Ne.symm ne6))
  obtain ⟨fs, hr, hrun, hended, hW, hsame⟩ := X19.leave (v := none) (fun _ => rfl)
  refine ⟨_, _, pre0 _ ?_, hrun, hended, _, _, rfl, ?_, ⟨_, rfl⟩, hW, hsame.mono (by decide) (by decide)⟩
  · refine XS.aloadN X0.here hx rfl (hb hby d_jdk_42_method_149_0) rfl rfl ?_
    refine st1 _ ?_
    refine XS.iloadN X1.here hx rfl (hb hby d_jdk_42_method_149_4) rfl ?_
    refine XS.ifYes X1.here hx rfl (pc0 := 5) (pc' := 27) rfl (hb hby d_jdk_42_method_149_5) rfl ((if0 _ _).trans (feq (by decide : ¬ ((2 : Int32) = (0 : Int32)))).2) (by decide) (by decide) ?_
    refine st2 _ ?_
    refine XS.ifNo X2.here hx rfl (hb hby d_jdk_42_method_149_30) rfl ((if0 _ _).trans (feq hS.2.1).1) ?_
    refine XS.aloadN X2.here hx rfl (hb hby d_jdk_42_method_149_33) rfl rfl ?_
    refine XS.iloadN X2.here hx rfl (hb hby d_jdk_42_method_149_34) rfl ?_
    refine XS.iloadN X2.here hx rfl (hb hby d_jdk_42_method_149_35) rfl ?_
    refine st3 _ ?_
    refine XS.astore X3.here hx rfl (hb hby d_jdk_42_method_149_39) rfl rfl (l' := #[.val (.ref a1), .val (.ref a2), .val (.int (0 : Int32)), .val (.int (2 : Int32)), .val .null, .val (.ref x3_x13_x1_b2)]) rfl ?_
    refine XS.aloadN X3.here hx rfl (hb hby d_jdk_42_method_149_41) rfl rfl ?_
    refine XS.aload X3.here hx rfl (hb hby d_jdk_42_method_149_42) rfl rfl ?_
    refine XS.iloadN X3.here hx rfl (hb hby d_jdk_42_method_149_44) rfl ?_
    refine st10 _ ?_
    refine st13 _ ?_
    refine XS.aloadN X13.here hx rfl (hb hby d_jdk_42_method_149_51) rfl rfl ?_
    refine XS.aload X13.here hx rfl (hb hby d_jdk_42_method_149_52) rfl rfl ?_
    refine st19 _ ?_
    exact X19.returnOut hx Bd.returns (hb hby d_jdk_42_method_149_57) hr
  · show Q_rc50_init Z a1 a2 k3 i4 i5 h0 n0 _ T19.heap _
    rw [e19]
    exact ⟨x3_x13_x1_b2, x3_x13_x1_k2, rfl, N19, K22, s5, t23, t24, f20, t25⟩
def Q_rc49_init (Z : State) (a1 : Addr) (a2 : Addr) (k3 : ClassId) (i4 : Int32) (i5 : Int32) (h0 : Heap) (n0 : Nat) (v : Option Value) (h : Heap) (L : List Loc) : Prop := ∃ (x2_x3_x13_x1_b2 : Addr), ∃ (x2_x3_x13_x1_k2 : ClassId), v = none ∧ Fr n0 L ∧ Keep h0 h [a1] ∧ h0.size ≤ x2_x3_x13_x1_b2 ∧ Exa Z h a1 nString_0 ∧ Fld Z h a1 nString_0 "coder" "B" (.int (1 : Int32)) ∧ Fld Z h a1 nString_0 "value" "[B" (.ref x2_x3_x13_x1_b2) ∧ Arv Z h x2_x3_x13_x1_b2 x2_x3_x13_x1_k2 .byte (4 : Int32) [(.int (nar .byte ((i4 >>> ((0 : Int32) &&& 31)).toInt8.toInt32))), (.int (nar .byte ((i4 >>> ((8 : Int32) &&& 31)).toInt8.toInt32))), (.int (nar .byte ((i5 >>> ((0 : Int32) &&& 31)).toInt8.toInt32))), (.int (nar .byte ((i5 >>> ((8 : Int32) &&& 31)).toInt8.toInt32)))] (.int (0 : Int32))
set_option maxRecDepth 65536 in
set_option maxHeartbeats 40000000 in
theorem rc49_init (l : Launch) (Z : State) (a0 : Array Value) (hw : ∀ d ∈ tables_1, d.before a0 Z = true) (ws : List Jvm.Cond) (cs : Int32) (hS : SB Z cs) (a1 : Addr) (a2 : Addr) (k3 : ClassId) (i4 : Int32) (i5 : Int32) (h0 : Heap) (n0 : Nat) (O0 : Old Z n0 h0) (g_a1 : n0 ≤ a1) (g_a2 : n0 ≤ a2) (E_a1 : Exa Z h0 a1 nString_0) (F_a1_coder : Fld Z h0 a1 nString_0 "coder" "B" (.int (0 : Int32))) (F_a1_value : Fld Z h0 a1 nString_0 "value" "[B" .null) (V_a2 : Arv Z h0 a2 k3 .char (2 : Int32) [(.int i4), (.int i5)] (.int (0 : Int32))) (hy1 : nar .char i5 = i5) (hy2 : ¬ (255 : Int32) < i4) (hy3 : (255 : Int32) < i5) :
    Met l my_2 jdk_42_method_3_code 2 none ws ({ frames := 5, cells := 2, slots := 6, locals := 74 } : Room) #[(.ref a1), (.ref a2)] Z h0 (Q_rc49_init Z a1 a2 k3 i4 i5 h0 n0) := by
  refine MetFree.of_bodySF (plainFor_of_name pn_1) hisR ?_
  intro p e s m args below meth c s₁ Bd hml0 hP hK
  obtain ⟨rfl, hZ, hh⟩ := hP
  have hx := Bd.exec
  have hby := Bd.bytes
  have hml : c.maxLocals = 2 := hml0
  have hown : s.vm.findClass nString_0 = some m.cls := findClass_of_methodNamed Bd.named
  have hnm := (name_of_methodNamed Bd.named Bd.method).1
  have X0 : Stand p l e ({ frames := 5, cells := 2, slots := 6, locals := 74 } : Room) s m #[(.ref a1), (.ref a2)] below meth c s₁ [] 0 0 := Stand.of_body Bd
  have e0 : s₁.heap = h0 := by rw [← hh, Bd.state]; rfl
  have N0 := Fr.nil n0
  obtain ⟨f₀, hf₀⟩ : ∃ f, f = entryFrame m #[(.ref a1), (.ref a2)] 2 := ⟨_, rfl⟩
  rw [← hf₀]
  have pre0 : Go p e below s₁ f₀ s₁ (mkF m 0 #[.val (.ref a1), .val (.ref a2)] []) := fun t k => castTop (hf₀.trans (ef_rc49_init m (a1) (a2))) k
  obtain ⟨c1, Ar1, q1, S1, M1, Hh1, G1⟩ := (id V_a2)
  obtain ⟨_, _, ⟨T2, L2, k2, n2⟩, -, X2, ⟨Lc2, hQ2, l2, y2, z2⟩, st2⟩ := X0.specialBack hx (y := my_1) rfl hown (mvT hZ (wq hw 12 rfl)) (mvT hZ (wq hw 13 rfl)) (mvT hZ (wq hw 15 rfl)) (by decide) (backOf (W := 0) (rc50_init l Z a0 hw [] cs hS a1 a2 k3 i4 i5 h0 n0 O0 g_a1 g_a2 E_a1 F_a1_coder F_a1_value V_a2 hy1 hy2 hy3) hZ (wq hw 15 rfl) (wq hw 7 rfl) (by decide) (by decide)) (g := (mkF m 6 #[.val (.ref a1), .val (.ref a2)] [.null, (.int (2 : Int32)), (.int (0 : Int32)), (.ref a2), (.ref a1)])) rfl (by rw [hml]; rfl) (Steps.refl _) (a := a1) (argsL := [(.ref a2), (.int (0 : Int32)), (.int (2 : Int32)), .null]) (rest := []) (lenOf pd_1 rfl) rfl (by show 2 * 0 + _ ≤ _; exact Nat.le_of_eq rfl) (hb hby d_jdk_42_method_3_6) (fun _ _ => ⟨rfl, e0, (by decide : 0 + 2 ≤ _), (by decide : 0 + 6 ≤ _)⟩)
  dsimp only [Pt.U, Pt.locs, Pt.cells, Pt.slots] at X2 l2 y2 z2 st2 hQ2
  have X2 := own_to X2 l2 y2 z2
  obtain ⟨x2_x3_x13_x1_b2, x2_x3_x13_x1_k2, rfl, N2q, K2, sz2_x3_x13_x1_b2, q2_0, q2_1, q2_2, q2_3⟩ := hQ2
  have N2 := Fr.app N0 N2q
  have g3 : n0 ≤ x2_x3_x13_x1_b2 := Nat.le_trans (Nat.le_of_eq O0.1.symm) (Nat.le_trans O0.2.1 sz2_x3_x13_x1_b2)
  have s4 : h0.size ≤ x2_x3_x13_x1_b2 := Nat.le_trans (Keep.refl h0 [a1]).1 sz2_x3_x13_x1_b2
  have ne5 : a1 ≠ x2_x3_x13_x1_b2 := Nat.ne_of_lt (Nat.lt_of_lt_of_le E_a1.lt sz2_x3_x13_x1_b2)
  have ne6 : a2 ≠ x2_x3_x13_x1_b2 := Nat.ne_of_lt (Nat.lt_of_lt_of_le V_a2.lt sz2_x3_x13_x1_b2)
  have O7 : Old Z n0 T2.heap := Old.keep O0 K2 (allS g_a1 all0)
  have K8 : Keep h0 T2.heap [a1] := (Keep.refl h0 [a1]).trans K2 (allS (Or.inl (List.mem_of_getElem? (i := 0) rfl)) all0)
  obtain ⟨fs, hr, hrun, hended, hW, hsame⟩ := X2.leave (v := none) (fun _ => rfl)
  refine ⟨_, _, pre0 _ ?_, hrun, hended, _, _, rfl, ?_, ⟨_, rfl⟩, hW, hsame.mono (by decide) (by decide)⟩
  · refine XS.aloadN X0.here hx rfl (hb hby d_jdk_42_method_3_0) rfl rfl ?_
    refine XS.aloadN X0.here hx rfl (hb hby d_jdk_42_method_3_1) rfl rfl ?_
    refine XS.iconst X0.here hx rfl (hb hby d_jdk_42_method_3_2) ?_
    refine XS.aloadN X0.here hx rfl (hb hby d_jdk_42_method_3_3) rfl rfl ?_
    refine X0.arraylength hx (by rw [e0]; exact Ar1.1) (State.isArrayOf_alike hZ.alike Ar1.2.1) (g := (mkF m 4 #[.val (.ref a1), .val (.ref a2)] [(.ref a2), (.int (0 : Int32)), (.ref a2), (.ref a1)])) rfl rfl (hb hby d_jdk_42_method_3_4) _ ?_
    rw [len_of S1 M1]
    refine XS.aconstNull X0.here hx rfl (hb hby d_jdk_42_method_3_5) ?_
    refine st2.trans ?_
    exact X2.returnOut hx Bd.returns (hb hby d_jdk_42_method_3_9) hr
  · show Q_rc49_init Z a1 a2 k3 i4 i5 h0 n0 _ T2.heap _
    exact ⟨x2_x3_x13_x1_b2, x2_x3_x13_x1_k2, rfl, N2, K8, s4, q2_0, q2_1, q2_2, q2_3⟩
def Q_rc48_make (Z : State) (i1 : Int32) (i2 : Int32) (i3 : Int32) (h0 : Heap) (n0 : Nat) (v : Option Value) (h : Heap) (L : List Loc) : Prop := ∃ (b1 : Addr), ∃ (x30_x2_x3_x13_x1_b2 : Addr), ∃ (x30_x2_x3_x13_x1_k2 : ClassId), v = some (.ref b1) ∧ Fr n0 L ∧ Keep h0 h [] ∧ h0.size ≤ b1 ∧ h0.size ≤ x30_x2_x3_x13_x1_b2 ∧ Exa Z h b1 nString_0 ∧ Fld Z h b1 nString_0 "coder" "B" (.int (1 : Int32)) ∧ Fld Z h b1 nString_0 "value" "[B" (.ref x30_x2_x3_x13_x1_b2) ∧ Arv Z h x30_x2_x3_x13_x1_b2 x30_x2_x3_x13_x1_k2 .byte (4 : Int32) [(.int (nar .byte ((i1 >>> ((0 : Int32) &&& 31)).toInt8.toInt32))), (.int (nar .byte ((i1 >>> ((8 : Int32) &&& 31)).toInt8.toInt32))), (.int (nar .byte ((i2 >>> ((0 : Int32) &&& 31)).toInt8.toInt32))), (.int (nar .byte ((i2 >>> ((8 : Int32) &&& 31)).toInt8.toInt32)))] (.int (0 : Int32))
set_option maxRecDepth 65536 in
set_option maxHeartbeats 40000000 in
theorem rc48_make (l : Launch) (Z : State) (a0 : Array Value) (hw : ∀ d ∈ tables_1, d.before a0 Z = true) (ws : List Jvm.Cond) (cs : Int32) (hS : SB Z cs) (i1 : Int32) (i2 : Int32) (i3 : Int32) (h0 : Heap) (n0 : Nat) (O0 : Old Z n0 h0) (hy0 : nar .char i1 = i1) (hy1 : nar .char i2 = i2) (hy3 : ¬ (255 : Int32) < i1) (hy4 : (255 : Int32) < i2) :
    Met l my_3 method_2_code 4 (some (.object nString_0)) ws ({ frames := 6, cells := 4, slots := 12, locals := 88 } : Room) #[(.int (2 : Int32)), (.int i1), (.int i2), (.int i3)] Z h0 (Q_rc48_make Z i1 i2 i3 h0 n0) := by
  refine MetFree.of_bodySF (plainFor_of_name pn_2) hisR ?_
  intro p e s m args below meth c s₁ Bd hml0 hP hK
  obtain ⟨rfl, hZ, hh⟩ := hP
  have hx := Bd.exec
  have hby := Bd.bytes
  have hml : c.maxLocals = 4 := hml0
  have hown : s.vm.findClass nUnfore_3 = some m.cls := findClass_of_methodNamed Bd.named
  have hnm := (name_of_methodNamed Bd.named Bd.method).1
  have X0 : Stand p l e ({ frames := 6, cells := 4, slots := 12, locals := 88 } : Room) s m #[(.int (2 : Int32)), (.int i1), (.int i2), (.int i3)] below meth c s₁ [] 0 0 := Stand.of_body Bd
  have e0 : s₁.heap = h0 := by rw [← hh, Bd.state]; rfl
  have N0 := Fr.nil n0
  obtain ⟨f₀, hf₀⟩ : ∃ f, f = entryFrame m #[(.int (2 : Int32)), (.int i1), (.int i2), (.int i3)] 4 := ⟨_, rfl⟩
  rw [← hf₀]
  have pre0 : Go p e below s₁ f₀ s₁ (mkF m 0 #[.val (.int (2 : Int32)), .val (.int i1), .val (.int i2), .val (.int i3)] []) := fun t k => castTop (hf₀.trans (ef_rc48_make m ((2 : Int32)) (i1) (i2) (i3))) k
  obtain ⟨T1, h1, X1, e1, E1, A1, D1, -, st1⟩ := newO X0 hx hZ hown (wq hw 5 rfl) (wq hw 6 rfl) (wq hw 7 rfl) e0 (g := (mkF m 40 #[.val (.int (2 : Int32)), .val (.int i1), .val (.int i2), .val (.int i3)] [])) rfl (hb hby d_method_2_40) (by decide) (by decide)
  obtain ⟨b1, gb1⟩ : ∃ z, z = h0.size := ⟨_, rfl⟩
  rw [← gb1] at A1 D1 st1
  have g2 : n0 ≤ b1 := Nat.le_trans (Nat.le_of_eq O0.1.symm) (Nat.le_trans O0.2.1 (Nat.le_of_eq gb1.symm))
  have s3 : h0.size ≤ b1 := Nat.le_trans (Keep.refl h0 []).1 (Nat.le_of_eq gb1.symm)
  have O4 : Old Z n0 h1 := Old.ext O0 E1
  have K5 : Keep h0 h1 [] := (Keep.refl h0 []).ext E1
  have f6 : Fld Z h1 b1 nString_0 "value" "[B" .null := D1 (Or.inr (wq hw 21 rfl)) (ty := (.array .byte)) (by decide)
  have f7 : Fld Z h1 b1 nString_0 "coder" "B" (.int (0 : Int32)) := D1 (Or.inr (wq hw 22 rfl)) (ty := .byte) (by decide)
  obtain ⟨T8, h8, k8, X8, e8, E8, A8, st8⟩ := newP X1 hx hZ (wq hw 8 rfl) e1 (g := (mkF m 45 #[.val (.int (2 : Int32)), .val (.int i1), .val (.int i2), .val (.int i3)] [(.int (2 : Int32)), (.ref b1), (.ref b1)])) rfl (hb hby d_method_2_45) rfl (by decide) (cap := 2) (by decide) (by decide) (by decide) (by decide)
  obtain ⟨b8, gb8⟩ : ∃ z, z = h1.size := ⟨_, rfl⟩
  rw [← gb8] at A8 st8
  have ne9 : b1 ≠ b8 := Nat.ne_of_lt (Nat.lt_of_lt_of_le A1.lt (Nat.le_of_eq gb8.symm))
  have g10 : n0 ≤ b8 := Nat.le_trans (Nat.le_of_eq O4.1.symm) (Nat.le_trans O4.2.1 (Nat.le_of_eq gb8.symm))
  have s11 : h0.size ≤ b8 := Nat.le_trans K5.1 (Nat.le_of_eq gb8.symm)
  have O12 : Old Z n0 h8 := Old.ext O4 E8
  have K13 : Keep h0 h8 [] := K5.ext E8
  have v14 : Arv Z h8 b8 k8 .char (2 : Int32) [(.int (0 : Int32)), (.int (0 : Int32))] (.int (0 : Int32)) := (Arv.new A8 (by decide)).pad (pad_rep [] (.int (0 : Int32)) 2)
  obtain ⟨c15, Ar15, q15, S15, M15, Hh15, G15⟩ := (id v14)
  have hin15 : ¬ ((0 : Int32) < 0 ∨ c15.slots.size ≤ ((0 : Int32)).toNatClampNeg) := inb_of S15 ⟨by decide, by decide⟩
  obtain ⟨T16, h16, X16, e16, W16, st16⟩ := stC X8 hx hZ e8 Ar15 (j := (0 : Int32)) hin15 (g := (mkF m 50 #[.val (.int (2 : Int32)), .val (.int i1), .val (.int i2), .val (.int i3)] [(.int i1), (.int (0 : Int32)), (.ref b8), (.ref b8), (.ref b1), (.ref b1)])) rfl rfl (hb hby d_method_2_50)
  have v17 : Arv Z h16 b8 k8 .char (2 : Int32) [(.int (nar .char i1)), (.int (0 : Int32))] (.int (0 : Int32)) := Arv.set Ar15 q15 S15 M15 Hh15 G15 (fits_nar_char _) W16 0 rfl (Nat.le_of_ble_eq_true rfl)
  have v18 : Arv Z h16 b8 k8 .char (2 : Int32) [(.int i1), (.int (0 : Int32))] (.int (0 : Int32)) := by rw [hy0] at v17; exact v17
  have N16 := Fr.snoc X16 N0 g10
  have O19 : Old Z n0 h16 := Old.wr O12 W16 g10
  have K20 : Keep h0 h16 [] := K13.wr W16 (Or.inr s11)
  obtain ⟨c21, Ar21, q21, S21, M21, Hh21, G21⟩ := (id v18)
  have hin21 : ¬ ((1 : Int32) < 0 ∨ c21.slots.size ≤ ((1 : Int32)).toNatClampNeg) := inb_of S21 ⟨by decide, by decide⟩
  obtain ⟨T22, h22, X22, e22, W22, st22⟩ := stC X16 hx hZ e16 Ar21 (j := (1 : Int32)) hin21 (g := (mkF m 54 #[.val (.int (2 : Int32)), .val (.int i1), .val (.int i2), .val (.int i3)] [(.int i2), (.int (1 : Int32)), (.ref b8), (.ref b8), (.ref b1), (.ref b1)])) rfl rfl (hb hby d_method_2_54)
  have v23 : Arv Z h22 b8 k8 .char (2 : Int32) [(.int i1), (.int (nar .char i2))] (.int (0 : Int32)) := Arv.set Ar21 q21 S21 M21 Hh21 G21 (fits_nar_char _) W22 1 rfl (Nat.le_of_ble_eq_true rfl)
  have v24 : Arv Z h22 b8 k8 .char (2 : Int32) [(.int i1), (.int i2)] (.int (0 : Int32)) := by rw [hy1] at v23; exact v23
  have N22 := Fr.snoc X22 N16 g10
  have O25 : Old Z n0 h22 := Old.wr O19 W22 g10
  have K26 : Keep h0 h22 [] := K20.wr W22 (Or.inr s11)
  have t27 : Exa Z h22 b1 nString_0 := (((A1.ext E8).wr W16).wr W22)
  have t28 : Fld Z h22 b1 nString_0 "coder" "B" (.int (0 : Int32)) := (((f7.ext E8).other W16 (Or.inl ne9)).other W22 (Or.inl ne9))
  have t29 : Fld Z h22 b1 nString_0 "value" "[B" .null := (((f6.ext E8).other W16 (Or.inl ne9)).other W22 (Or.inl ne9))
  obtain ⟨_, _, ⟨T30, L30, k30, n30⟩, -, X30, ⟨Lc30, hQ30, l30, y30, z30⟩, st30⟩ := X22.specialBack hx (y := my_2) rfl hown (mvT hZ (wq hw 9 rfl)) (mvT hZ (wq hw 10 rfl)) (mvT hZ (wq hw 11 rfl)) (by decide) (backOf (W := 1) (rc49_init l Z a0 hw [] cs hS b1 b8 k8 i1 i2 h22 n0 O25 g2 g10 t27 t28 t29 v24 hy1 hy3 hy4) hZ (wq hw 11 rfl) (wq hw 7 rfl) (by decide) (by decide)) (g := (mkF m 55 #[.val (.int (2 : Int32)), .val (.int i1), .val (.int i2), .val (.int i3)] [(.ref b8), (.ref b1), (.ref b1)])) rfl (by rw [hml]; rfl) (Steps.refl _) (a := b1) (argsL := [(.ref b8)]) (rest := [(.ref b1)]) (lenOf pd_2 rfl) rfl (by show 2 * 0 + _ ≤ _; exact Nat.le_of_eq rfl) (hb hby d_method_2_55) (fun _ _ => ⟨rfl, e22, (by decide : 2 + 2 ≤ _), (by decide : 6 + 6 ≤ _)⟩)
  dsimp only [Pt.U, Pt.locs, Pt.cells, Pt.slots] at X30 l30 y30 z30 st30 hQ30
  have X30 := own_to X30 l30 y30 z30
  obtain ⟨x30_x2_x3_x13_x1_b2, x30_x2_x3_x13_x1_k2, rfl, N30q, K30, sz30_x2_x3_x13_x1_b2, q30_0, q30_1, q30_2, q30_3⟩ := hQ30
  have N30 := Fr.app N22 N30q
  have g31 : n0 ≤ x30_x2_x3_x13_x1_b2 := Nat.le_trans (Nat.le_of_eq O25.1.symm) (Nat.le_trans O25.2.1 sz30_x2_x3_x13_x1_b2)
  have s32 : h0.size ≤ x30_x2_x3_x13_x1_b2 := Nat.le_trans K26.1 sz30_x2_x3_x13_x1_b2
  have ne33 : b1 ≠ x30_x2_x3_x13_x1_b2 := Nat.ne_of_lt (Nat.lt_of_lt_of_le t27.lt sz30_x2_x3_x13_x1_b2)
  have ne34 : b8 ≠ x30_x2_x3_x13_x1_b2 := Nat.ne_of_lt (Nat.lt_of_lt_of_le v24.lt sz30_x2_x3_x13_x1_b2)
  have O35 : Old Z n0 T30.heap := Old.keep O25 K30 (allS g2 all0)
  have K36 : Keep h0 T30.heap [] := K26.trans K30 (allS (Or.inr s3) all0)
  obtain ⟨fs, hr, hrun, hended, hW, hsame⟩ := X30.leave (v := (some (.ref b1))) (fun h => by rw [Bd.returns] at h; cases h)
  refine ⟨_, _, pre0 _ ?_, hrun, hended, _, _, rfl, ?_, ⟨_, rfl⟩, hW, hsame.mono (by decide) (by decide)⟩
  · refine XS.iloadN X0.here hx rfl (hb hby d_method_2_0) rfl ?_
    refine XS.ifYes X0.here hx rfl (pc0 := 1) (pc' := 15) rfl (hb hby d_method_2_1) rfl ((if0 _ _).trans (feq (by decide : ¬ ((2 : Int32) = (0 : Int32)))).2) (by decide) (by decide) ?_
    refine XS.iloadN X0.here hx rfl (hb hby d_method_2_15) rfl ?_
    refine XS.iconst X0.here hx rfl (hb hby d_method_2_16) ?_
    refine XS.icmpYes X0.here hx rfl (pc0 := 17) (pc' := 35) rfl (hb hby d_method_2_17) rfl (feq (by decide : ¬ ((2 : Int32) = (1 : Int32)))).2 (by decide) (by decide) ?_
    refine XS.iloadN X0.here hx rfl (hb hby d_method_2_35) rfl ?_
    refine XS.iconst X0.here hx rfl (hb hby d_method_2_36) ?_
    refine XS.icmpNo X0.here hx rfl (hb hby d_method_2_37) rfl (teq (by decide : (2 : Int32) = (2 : Int32))).2 ?_
    refine st1 _ ?_
    refine XS.dup X1.here hx rfl (hb hby d_method_2_43) rfl rfl ?_
    refine XS.iconst X1.here hx rfl (hb hby d_method_2_44) ?_
    refine st8 _ ?_
    refine XS.dup X8.here hx rfl (hb hby d_method_2_47) rfl rfl ?_
    refine XS.iconst X8.here hx rfl (hb hby d_method_2_48) ?_
    refine XS.iloadN X8.here hx rfl (hb hby d_method_2_49) rfl ?_
    refine st16 _ ?_
    refine XS.dup X16.here hx rfl (hb hby d_method_2_51) rfl rfl ?_
    refine XS.iconst X16.here hx rfl (hb hby d_method_2_52) ?_
    refine XS.iloadN X16.here hx rfl (hb hby d_method_2_53) rfl ?_
    refine st22 _ ?_
    refine st30.trans ?_
    exact retOut X30 hx Bd.returns rfl (Or.inr (Or.inr (Or.inr (Or.inr ⟨rfl, rfl, rfl⟩)))) (hb hby d_method_2_58) hr
  · show Q_rc48_make Z i1 i2 i3 h0 n0 _ T30.heap _
    exact ⟨b1, x30_x2_x3_x13_x1_b2, x30_x2_x3_x13_x1_k2, rfl, N30, K36, s3, s32, q30_0, q30_1, q30_2, q30_3⟩
def Q_rc58_compress (Z : State) (a1 : Addr) (a2 : Addr) (k3 : ClassId) (i4 : Int32) (i5 : Int32) (k6 : ClassId) (h0 : Heap) (n0 : Nat) (v : Option Value) (h : Heap) (L : List Loc) : Prop := v = some (.int (2 : Int32)) ∧ Fr n0 L ∧ Keep h0 h [a2] ∧ Arv Z h a2 k6 .byte (2 : Int32) [(.int (nar .byte (i4.toInt8.toInt32))), (.int (nar .byte (i5.toInt8.toInt32)))] (.int (0 : Int32))
set_option maxRecDepth 65536 in
set_option maxHeartbeats 40000000 in
theorem rc58_compress (l : Launch) (Z : State) (a0 : Array Value) (hw : ∀ d ∈ tables_1, d.before a0 Z = true) (ws : List Jvm.Cond) (cs : Int32) (hS : SB Z cs) (a1 : Addr) (a2 : Addr) (k3 : ClassId) (i4 : Int32) (i5 : Int32) (k6 : ClassId) (h0 : Heap) (n0 : Nat) (O0 : Old Z n0 h0) (g_a1 : n0 ≤ a1) (g_a2 : n0 ≤ a2) (V_a1 : Arv Z h0 a1 k3 .char (2 : Int32) [(.int i4), (.int i5)] (.int (0 : Int32))) (V_a2 : Arv Z h0 a2 k6 .byte (2 : Int32) [(.int (0 : Int32)), (.int (0 : Int32))] (.int (0 : Int32))) (hy2 : ¬ (255 : Int32) < i4) (hy3 : ¬ (255 : Int32) < i5) (hy4 : ¬ a1 = a2) :
    Met l my_5 jdk_52_method_21_code 7 (some .int) ws ({ frames := 0, cells := 0, slots := 0, locals := 0 } : Room) #[(.ref a1), (.int (0 : Int32)), (.ref a2), (.int (0 : Int32)), (.int (2 : Int32))] Z h0 (Q_rc58_compress Z a1 a2 k3 i4 i5 k6 h0 n0) := by
  refine MetFree.of_bodySF (plainFor_of_name pn_3) hisR ?_
  intro p e s m args below meth c s₁ Bd hml0 hP hK
  obtain ⟨rfl, hZ, hh⟩ := hP
  have hx := Bd.exec
  have hby := Bd.bytes
  have hml : c.maxLocals = 7 := hml0
  have hown : s.vm.findClass nString_1 = some m.cls := findClass_of_methodNamed Bd.named
  have hnm := (name_of_methodNamed Bd.named Bd.method).1
  have X0 : Stand p l e ({ frames := 0, cells := 0, slots := 0, locals := 0 } : Room) s m #[(.ref a1), (.int (0 : Int32)), (.ref a2), (.int (0 : Int32)), (.int (2 : Int32))] below meth c s₁ [] 0 0 := Stand.of_body Bd
  have e0 : s₁.heap = h0 := by rw [← hh, Bd.state]; rfl
  have N0 := Fr.nil n0
  obtain ⟨f₀, hf₀⟩ : ∃ f, f = entryFrame m #[(.ref a1), (.int (0 : Int32)), (.ref a2), (.int (0 : Int32)), (.int (2 : Int32))] 7 := ⟨_, rfl⟩
  rw [← hf₀]
  have pre0 : Go p e below s₁ f₀ s₁ (mkF m 0 #[.val (.ref a1), .val (.int (0 : Int32)), .val (.ref a2), .val (.int (0 : Int32)), .val (.int (2 : Int32)), .unset, .unset] []) := fun t k => castTop (hf₀.trans (ef_rc58_compress m (a1) ((0 : Int32)) (a2) ((0 : Int32)) ((2 : Int32)))) k
  obtain ⟨c1, Ar1, q1, S1, M1, Hh1, G1⟩ := (id V_a1)
  have hin1 : ¬ ((0 : Int32) < 0 ∨ c1.slots.size ≤ ((0 : Int32)).toNatClampNeg) := inb_of S1 ⟨by decide, by decide⟩
  have hat1 : c1.slots[((0 : Int32)).toNatClampNeg]? = some (.int i4) := Hh1.at hin1 rfl
  obtain ⟨c2, Ar2, q2, S2, M2, Hh2, G2⟩ := (id V_a2)
  have hin2 : ¬ ((0 : Int32) < 0 ∨ c2.slots.size ≤ ((0 : Int32)).toNatClampNeg) := inb_of S2 ⟨by decide, by decide⟩
  obtain ⟨T3, h3, X3, e3, W3, st3⟩ := stB X0 hx hZ e0 Ar2 (j := (0 : Int32)) hin2 (g := (mkF m 31 #[.val (.ref a1), .val (.int (0 : Int32)), .val (.ref a2), .val (.int (0 : Int32)), .val (.int (2 : Int32)), .val (.int (0 : Int32)), .val (.int i4)] [(.int (i4.toInt8.toInt32)), (.int (0 : Int32)), (.ref a2)])) rfl rfl (hb hby d_jdk_52_method_21_31)
  have v4 : Arv Z h3 a2 k6 .byte (2 : Int32) [(.int (nar .byte (i4.toInt8.toInt32))), (.int (0 : Int32))] (.int (0 : Int32)) := Arv.set Ar2 q2 S2 M2 Hh2 G2 (fits_nar_byte _) W3 0 rfl (Nat.le_of_ble_eq_true rfl)
  have N3 := Fr.snoc X3 N0 g_a2
  have O5 : Old Z n0 h3 := Old.wr O0 W3 g_a2
  have K6 : Keep h0 h3 [a2] := (Keep.refl h0 [a2]).wr W3 (Or.inl (List.mem_of_getElem? (i := 0) rfl))
  have t7 : Arv Z h3 a1 k3 .char (2 : Int32) [(.int i4), (.int i5)] (.int (0 : Int32)) := (V_a1.other W3 hy4)
  obtain ⟨c8, Ar8, q8, S8, M8, Hh8, G8⟩ := (id t7)
  have hin8 : ¬ ((1 : Int32) < 0 ∨ c8.slots.size ≤ ((1 : Int32)).toNatClampNeg) := inb_of S8 ⟨by decide, by decide⟩
  have hat8 : c8.slots[((1 : Int32)).toNatClampNeg]? = some (.int i5) := Hh8.at hin8 rfl
  obtain ⟨c9, Ar9, q9, S9, M9, Hh9, G9⟩ := (id v4)
  have hin9 : ¬ ((1 : Int32) < 0 ∨ c9.slots.size ≤ ((1 : Int32)).toNatClampNeg) := inb_of S9 ⟨by decide, by decide⟩
  obtain ⟨T10, h10, X10, e10, W10, st10⟩ := stB X3 hx hZ e3 Ar9 (j := (1 : Int32)) hin9 (g := (mkF m 31 #[.val (.ref a1), .val (.int (1 : Int32)), .val (.ref a2), .val (.int (1 : Int32)), .val (.int (2 : Int32)), .val (.int (1 : Int32)), .val (.int i5)] [(.int (i5.toInt8.toInt32)), (.int (1 : Int32)), (.ref a2)])) rfl rfl (hb hby d_jdk_52_method_21_31)
  have v11 : Arv Z h10 a2 k6 .byte (2 : Int32) [(.int (nar .byte (i4.toInt8.toInt32))), (.int (nar .byte (i5.toInt8.toInt32)))] (.int (0 : Int32)) := Arv.set Ar9 q9 S9 M9 Hh9 G9 (fits_nar_byte _) W10 1 rfl (Nat.le_of_ble_eq_true rfl)
  have N10 := Fr.snoc X10 N3 g_a2
  have O12 : Old Z n0 h10 := Old.wr O5 W10 g_a2
  have K13 : Keep h0 h10 [a2] := K6.wr W10 (Or.inl (List.mem_of_getElem? (i := 0) rfl))
  obtain ⟨fs, hr, hrun, hended, hW, hsame⟩ := X10.leave (v := (some (.int (2 : Int32)))) (fun h => by rw [Bd.returns] at h; cases h)
  refine ⟨_, _, pre0 _ ?_, hrun, hended, _, _, rfl, ?_, ⟨_, rfl⟩, hW, hsame.mono (by decide) (by decide)⟩
  · refine XS.iconst X0.here hx rfl (hb hby d_jdk_52_method_21_0) ?_
    refine XS.istore X0.here hx rfl (hb hby d_jdk_52_method_21_1) rfl (l' := #[.val (.ref a1), .val (.int (0 : Int32)), .val (.ref a2), .val (.int (0 : Int32)), .val (.int (2 : Int32)), .val (.int (0 : Int32)), .unset]) rfl ?_
    refine XS.iload X0.here hx rfl (hb hby d_jdk_52_method_21_3) rfl ?_
    refine XS.iload X0.here hx rfl (hb hby d_jdk_52_method_21_5) rfl ?_
    refine XS.icmpNo X0.here hx rfl (hb hby d_jdk_52_method_21_7) rfl (tlt (by decide : (0 : Int32) < (2 : Int32))).2.1 ?_
    refine XS.aloadN X0.here hx rfl (hb hby d_jdk_52_method_21_10) rfl rfl ?_
    refine XS.iloadN X0.here hx rfl (hb hby d_jdk_52_method_21_11) rfl ?_
    refine X0.caload hx (j := (0 : Int32)) (v := (.int i4)) (by rw [e0]; exact Ar1.1) (State.isArrayOf_alike hZ.alike Ar1.2.1) Ar1.2.2 hin1 hat1 (g := (mkF m 12 #[.val (.ref a1), .val (.int (0 : Int32)), .val (.ref a2), .val (.int (0 : Int32)), .val (.int (2 : Int32)), .val (.int (0 : Int32)), .unset] [(.int (0 : Int32)), (.ref a1)])) rfl rfl (hb hby d_jdk_52_method_21_12) _ ?_
    refine XS.istore X0.here hx rfl (hb hby d_jdk_52_method_21_13) rfl (l' := #[.val (.ref a1), .val (.int (0 : Int32)), .val (.ref a2), .val (.int (0 : Int32)), .val (.int (2 : Int32)), .val (.int (0 : Int32)), .val (.int i4)]) rfl ?_
    refine XS.iload X0.here hx rfl (hb hby d_jdk_52_method_21_15) rfl ?_
    refine XS.sipush X0.here hx rfl (hb hby d_jdk_52_method_21_17) ?_
    refine XS.icmpYes X0.here hx rfl (pc0 := 20) (pc' := 26) rfl (hb hby d_jdk_52_method_21_20) rfl (flt hy2).2.2.2 (by decide) (by decide) ?_
    refine XS.aloadN X0.here hx rfl (hb hby d_jdk_52_method_21_26) rfl rfl ?_
    refine XS.iloadN X0.here hx rfl (hb hby d_jdk_52_method_21_27) rfl ?_
    refine XS.iload X0.here hx rfl (hb hby d_jdk_52_method_21_28) rfl ?_
    refine XS.i2b X0.here hx rfl (hb hby d_jdk_52_method_21_30) rfl ?_
    refine st3 _ ?_
    refine XS.iinc X3.here hx rfl (hb hby d_jdk_52_method_21_32) rfl (l' := #[.val (.ref a1), .val (.int (1 : Int32)), .val (.ref a2), .val (.int (0 : Int32)), .val (.int (2 : Int32)), .val (.int (0 : Int32)), .val (.int i4)]) rfl ?_
    refine XS.iinc X3.here hx rfl (hb hby d_jdk_52_method_21_35) rfl (l' := #[.val (.ref a1), .val (.int (1 : Int32)), .val (.ref a2), .val (.int (1 : Int32)), .val (.int (2 : Int32)), .val (.int (0 : Int32)), .val (.int i4)]) rfl ?_
    refine XS.iinc X3.here hx rfl (hb hby d_jdk_52_method_21_38) rfl (l' := #[.val (.ref a1), .val (.int (1 : Int32)), .val (.ref a2), .val (.int (1 : Int32)), .val (.int (2 : Int32)), .val (.int (1 : Int32)), .val (.int i4)]) rfl ?_
    refine XS.goto X3.here hx rfl (pc0 := 41) (pc' := 3) rfl (hb hby d_jdk_52_method_21_41) (by decide) (by decide) ?_
    refine XS.iload X3.here hx rfl (hb hby d_jdk_52_method_21_3) rfl ?_
    refine XS.iload X3.here hx rfl (hb hby d_jdk_52_method_21_5) rfl ?_
    refine XS.icmpNo X3.here hx rfl (hb hby d_jdk_52_method_21_7) rfl (tlt (by decide : (1 : Int32) < (2 : Int32))).2.1 ?_
    refine XS.aloadN X3.here hx rfl (hb hby d_jdk_52_method_21_10) rfl rfl ?_
    refine XS.iloadN X3.here hx rfl (hb hby d_jdk_52_method_21_11) rfl ?_
    refine X3.caload hx (j := (1 : Int32)) (v := (.int i5)) (by rw [e3]; exact Ar8.1) (State.isArrayOf_alike hZ.alike Ar8.2.1) Ar8.2.2 hin8 hat8 (g := (mkF m 12 #[.val (.ref a1), .val (.int (1 : Int32)), .val (.ref a2), .val (.int (1 : Int32)), .val (.int (2 : Int32)), .val (.int (1 : Int32)), .val (.int i4)] [(.int (1 : Int32)), (.ref a1)])) rfl rfl (hb hby d_jdk_52_method_21_12) _ ?_
    refine XS.istore X3.here hx rfl (hb hby d_jdk_52_method_21_13) rfl (l' := #[.val (.ref a1), .val (.int (1 : Int32)), .val (.ref a2), .val (.int (1 : Int32)), .val (.int (2 : Int32)), .val (.int (1 : Int32)), .val (.int i5)]) rfl ?_
    refine XS.iload X3.here hx rfl (hb hby d_jdk_52_method_21_15) rfl ?_
    refine XS.sipush X3.here hx rfl (hb hby d_jdk_52_method_21_17) ?_
    refine XS.icmpYes X3.here hx rfl (pc0 := 20) (pc' := 26) rfl (hb hby d_jdk_52_method_21_20) rfl (flt hy3).2.2.2 (by decide) (by decide) ?_
    refine XS.aloadN X3.here hx rfl (hb hby d_jdk_52_method_21_26) rfl rfl ?_
    refine XS.iloadN X3.here hx rfl (hb hby d_jdk_52_method_21_27) rfl ?_
    refine XS.iload X3.here hx rfl (hb hby d_jdk_52_method_21_28) rfl ?_
    refine XS.i2b X3.here hx rfl (hb hby d_jdk_52_method_21_30) rfl ?_
    refine st10 _ ?_
    refine XS.iinc X10.here hx rfl (hb hby d_jdk_52_method_21_32) rfl (l' := #[.val (.ref a1), .val (.int (2 : Int32)), .val (.ref a2), .val (.int (1 : Int32)), .val (.int (2 : Int32)), .val (.int (1 : Int32)), .val (.int i5)]) rfl ?_
    refine XS.iinc X10.here hx rfl (hb hby d_jdk_52_method_21_35) rfl (l' := #[.val (.ref a1), .val (.int (2 : Int32)), .val (.ref a2), .val (.int (2 : Int32)), .val (.int (2 : Int32)), .val (.int (1 : Int32)), .val (.int i5)]) rfl ?_
    refine XS.iinc X10.here hx rfl (hb hby d_jdk_52_method_21_38) rfl (l' := #[.val (.ref a1), .val (.int (2 : Int32)), .val (.ref a2), .val (.int (2 : Int32)), .val (.int (2 : Int32)), .val (.int (2 : Int32)), .val (.int i5)]) rfl ?_
    refine XS.goto X10.here hx rfl (pc0 := 41) (pc' := 3) rfl (hb hby d_jdk_52_method_21_41) (by decide) (by decide) ?_
    refine XS.iload X10.here hx rfl (hb hby d_jdk_52_method_21_3) rfl ?_
    refine XS.iload X10.here hx rfl (hb hby d_jdk_52_method_21_5) rfl ?_
    refine XS.icmpYes X10.here hx rfl (pc0 := 7) (pc' := 44) rfl (hb hby d_jdk_52_method_21_7) rfl (flt (by decide : ¬ ((2 : Int32) < (2 : Int32)))).2.1 (by decide) (by decide) ?_
    refine XS.iload X10.here hx rfl (hb hby d_jdk_52_method_21_44) rfl ?_
    exact retI X10 hx Bd.returns (hb hby d_jdk_52_method_21_46) hr
  · show Q_rc58_compress Z a1 a2 k3 i4 i5 k6 h0 n0 _ T10.heap _
    rw [e10]
    exact ⟨rfl, N10, K13, v11⟩
def Q_rc57_compress (Z : State) (a1 : Addr) (k2 : ClassId) (i3 : Int32) (i4 : Int32) (h0 : Heap) (n0 : Nat) (v : Option Value) (h : Heap) (L : List Loc) : Prop := ∃ (b1 : Addr), ∃ (k1 : ClassId), v = some (.ref b1) ∧ Fr n0 L ∧ Keep h0 h [] ∧ h0.size ≤ b1 ∧ Arv Z h b1 k1 .byte (2 : Int32) [(.int (nar .byte (i3.toInt8.toInt32))), (.int (nar .byte (i4.toInt8.toInt32)))] (.int (0 : Int32))
set_option maxRecDepth 65536 in
set_option maxHeartbeats 40000000 in
theorem rc57_compress (l : Launch) (Z : State) (a0 : Array Value) (hw : ∀ d ∈ tables_1, d.before a0 Z = true) (ws : List Jvm.Cond) (cs : Int32) (hS : SB Z cs) (a1 : Addr) (k2 : ClassId) (i3 : Int32) (i4 : Int32) (h0 : Heap) (n0 : Nat) (O0 : Old Z n0 h0) (g_a1 : n0 ≤ a1) (V_a1 : Arv Z h0 a1 k2 .char (2 : Int32) [(.int i3), (.int i4)] (.int (0 : Int32))) (hy2 : ¬ (255 : Int32) < i3) (hy3 : ¬ (255 : Int32) < i4) :
    Met l my_11 jdk_52_method_16_code 6 (some (.array .byte)) ws ({ frames := 1, cells := 1, slots := 2, locals := 18 } : Room) #[(.ref a1), (.int (0 : Int32)), (.int (2 : Int32))] Z h0 (Q_rc57_compress Z a1 k2 i3 i4 h0 n0) := by
  refine MetFree.of_bodySF (plainFor_of_name pn_3) hisR ?_
  intro p e s m args below meth c s₁ Bd hml0 hP hK
  obtain ⟨rfl, hZ, hh⟩ := hP
  have hx := Bd.exec
  have hby := Bd.bytes
  have hml : c.maxLocals = 6 := hml0
  have hown : s.vm.findClass nString_1 = some m.cls := findClass_of_methodNamed Bd.named
  have hnm := (name_of_methodNamed Bd.named Bd.method).1
  have X0 : Stand p l e ({ frames := 1, cells := 1, slots := 2, locals := 18 } : Room) s m #[(.ref a1), (.int (0 : Int32)), (.int (2 : Int32))] below meth c s₁ [] 0 0 := Stand.of_body Bd
  have e0 : s₁.heap = h0 := by rw [← hh, Bd.state]; rfl
  have N0 := Fr.nil n0
  obtain ⟨f₀, hf₀⟩ : ∃ f, f = entryFrame m #[(.ref a1), (.int (0 : Int32)), (.int (2 : Int32))] 6 := ⟨_, rfl⟩
  rw [← hf₀]
  have pre0 : Go p e below s₁ f₀ s₁ (mkF m 0 #[.val (.ref a1), .val (.int (0 : Int32)), .val (.int (2 : Int32)), .unset, .unset, .unset] []) := fun t k => castTop (hf₀.trans (ef_rc57_compress m (a1) ((0 : Int32)) ((2 : Int32)))) k
  obtain ⟨T1, h1, k1, X1, e1, E1, A1, st1⟩ := newP X0 hx hZ (wq hw 20 rfl) e0 (g := (mkF m 1 #[.val (.ref a1), .val (.int (0 : Int32)), .val (.int (2 : Int32)), .unset, .unset, .unset] [(.int (2 : Int32))])) rfl (hb hby d_jdk_52_method_16_1) rfl (by decide) (cap := 2) (by decide) (by decide) (by decide) (by decide)
  obtain ⟨b1, gb1⟩ : ∃ z, z = h0.size := ⟨_, rfl⟩
  rw [← gb1] at A1 st1
  have ne2 : a1 ≠ b1 := Nat.ne_of_lt (Nat.lt_of_lt_of_le V_a1.lt (Nat.le_of_eq gb1.symm))
  have g3 : n0 ≤ b1 := Nat.le_trans (Nat.le_of_eq O0.1.symm) (Nat.le_trans O0.2.1 (Nat.le_of_eq gb1.symm))
  have s4 : h0.size ≤ b1 := Nat.le_trans (Keep.refl h0 []).1 (Nat.le_of_eq gb1.symm)
  have O5 : Old Z n0 h1 := Old.ext O0 E1
  have K6 : Keep h0 h1 [] := (Keep.refl h0 []).ext E1
  have v7 : Arv Z h1 b1 k1 .byte (2 : Int32) [(.int (0 : Int32)), (.int (0 : Int32))] (.int (0 : Int32)) := (Arv.new A1 (by decide)).pad (pad_rep [] (.int (0 : Int32)) 2)
  have t8 : Arv Z h1 a1 k2 .char (2 : Int32) [(.int i3), (.int i4)] (.int (0 : Int32)) := (V_a1.ext E1)
  obtain ⟨_, _, ⟨T9, L9, k9, n9⟩, -, X9, ⟨Lc9, hQ9, l9, y9, z9⟩, st9⟩ := Jvm.LawKit.callS X1 hx (y := my_5) hown (mvT hZ (wq hw 41 rfl)) (mvT hZ (wq hw 42 rfl)) (mvT hZ (wq hw 39 rfl)) (mvT hZ (wq hw 43 rfl)) (by decide) (backOf (W := 0) (rc58_compress l Z a0 hw [] cs hS a1 b1 k2 i3 i4 k1 h1 n0 O5 g_a1 g3 t8 v7 hy2 hy3 ne2) hZ (wq hw 43 rfl) (wq hw 39 rfl) (by decide) (by decide)) (g := (mkF m 9 #[.val (.ref a1), .val (.int (0 : Int32)), .val (.int (2 : Int32)), .val (.ref b1), .unset, .unset] [(.int (2 : Int32)), (.int (0 : Int32)), (.ref b1), (.int (0 : Int32)), (.ref a1)])) rfl (by rw [hml]; rfl) (argsL := [(.ref a1), (.int (0 : Int32)), (.ref b1), (.int (0 : Int32)), (.int (2 : Int32))]) (rest := []) (lenOf pd_5 rfl) rfl (by show 2 * 0 + _ ≤ _; exact Nat.le_of_eq rfl) (hb hby d_jdk_52_method_16_9) (fun _ _ => ⟨rfl, e1, (by decide : 1 + 0 ≤ _), (by decide : 2 + 0 ≤ _)⟩)
  dsimp only [Pt.U, Pt.locs, Pt.cells, Pt.slots] at X9 l9 y9 z9 st9 hQ9
  have X9 := own_to X9 l9 y9 z9
  obtain ⟨rfl, N9q, K9, q9_0⟩ := hQ9
  have N9 := Fr.app N0 N9q
  have O10 : Old Z n0 T9.heap := Old.keep O5 K9 (allS g3 all0)
  have K11 : Keep h0 T9.heap [] := K6.trans K9 (allS (Or.inr s4) all0)
  obtain ⟨fs, hr, hrun, hended, hW, hsame⟩ := X9.leave (v := (some (.ref b1))) (fun h => by rw [Bd.returns] at h; cases h)
  refine ⟨_, _, pre0 _ ?_, hrun, hended, _, _, rfl, ?_, ⟨_, rfl⟩, hW, hsame.mono (by decide) (by decide)⟩
  · refine XS.iloadN X0.here hx rfl (hb hby d_jdk_52_method_16_0) rfl ?_
    refine st1 _ ?_
    refine XS.astoreN X1.here hx rfl (hb hby d_jdk_52_method_16_3) rfl rfl (l' := #[.val (.ref a1), .val (.int (0 : Int32)), .val (.int (2 : Int32)), .val (.ref b1), .unset, .unset]) rfl ?_
    refine XS.aloadN X1.here hx rfl (hb hby d_jdk_52_method_16_4) rfl rfl ?_
    refine XS.iloadN X1.here hx rfl (hb hby d_jdk_52_method_16_5) rfl ?_
    refine XS.aloadN X1.here hx rfl (hb hby d_jdk_52_method_16_6) rfl rfl ?_
    refine XS.iconst X1.here hx rfl (hb hby d_jdk_52_method_16_7) ?_
    refine XS.iloadN X1.here hx rfl (hb hby d_jdk_52_method_16_8) rfl ?_
    refine st9 _ ?_
    refine XS.istore X9.here hx rfl (hb hby d_jdk_52_method_16_12) rfl (l' := #[.val (.ref a1), .val (.int (0 : Int32)), .val (.int (2 : Int32)), .val (.ref b1), .val (.int (2 : Int32)), .unset]) rfl ?_
    refine XS.iload X9.here hx rfl (hb hby d_jdk_52_method_16_14) rfl ?_
    refine XS.iloadN X9.here hx rfl (hb hby d_jdk_52_method_16_16) rfl ?_
    refine XS.icmpYes X9.here hx rfl (pc0 := 17) (pc' := 57) rfl (hb hby d_jdk_52_method_16_17) rfl (teq (by decide : (2 : Int32) = (2 : Int32))).1 (by decide) (by decide) ?_
    refine XS.aloadN X9.here hx rfl (hb hby d_jdk_52_method_16_57) rfl rfl ?_
    exact retOut X9 hx Bd.returns rfl (Or.inr (Or.inr (Or.inr (Or.inr ⟨rfl, rfl, rfl⟩)))) (hb hby d_jdk_52_method_16_58) hr
  · show Q_rc57_compress Z a1 k2 i3 i4 h0 n0 _ T9.heap _
    exact ⟨b1, k1, rfl, N9, K11, s4, q9_0⟩
def Q_rc59_coderFromArrayLen (Z : State) (a1 : Addr) (k2 : ClassId) (i3 : Int32) (i4 : Int32) (h0 : Heap) (n0 : Nat) (v : Option Value) (h : Heap) (L : List Loc) : Prop := v = some (.int (0 : Int32)) ∧ Fr n0 L ∧ h = h0
set_option maxRecDepth 65536 in
set_option maxHeartbeats 40000000 in
theorem rc59_coderFromArrayLen (l : Launch) (Z : State) (a0 : Array Value) (hw : ∀ d ∈ tables_1, d.before a0 Z = true) (ws : List Jvm.Cond) (cs : Int32) (hS : SB Z cs) (a1 : Addr) (k2 : ClassId) (i3 : Int32) (i4 : Int32) (h0 : Heap) (n0 : Nat) (O0 : Old Z n0 h0) (g_a1 : n0 ≤ a1) (V_a1 : Arv Z h0 a1 k2 .byte (2 : Int32) [(.int i3), (.int i4)] (.int (0 : Int32))) :
    Met l my_12 jdk_52_method_15_code 2 (some .byte) ws ({ frames := 0, cells := 0, slots := 0, locals := 0 } : Room) #[(.ref a1), (.int (2 : Int32))] Z h0 (Q_rc59_coderFromArrayLen Z a1 k2 i3 i4 h0 n0) := by
  refine MetFree.of_bodySF (plainFor_of_name pn_3) hisR ?_
  intro p e s m args below meth c s₁ Bd hml0 hP hK
  obtain ⟨rfl, hZ, hh⟩ := hP
  have hx := Bd.exec
  have hby := Bd.bytes
  have hml : c.maxLocals = 2 := hml0
  have hown : s.vm.findClass nString_1 = some m.cls := findClass_of_methodNamed Bd.named
  have hnm := (name_of_methodNamed Bd.named Bd.method).1
  have X0 : Stand p l e ({ frames := 0, cells := 0, slots := 0, locals := 0 } : Room) s m #[(.ref a1), (.int (2 : Int32))] below meth c s₁ [] 0 0 := Stand.of_body Bd
  have e0 : s₁.heap = h0 := by rw [← hh, Bd.state]; rfl
  have N0 := Fr.nil n0
  obtain ⟨f₀, hf₀⟩ : ∃ f, f = entryFrame m #[(.ref a1), (.int (2 : Int32))] 2 := ⟨_, rfl⟩
  rw [← hf₀]
  have pre0 : Go p e below s₁ f₀ s₁ (mkF m 0 #[.val (.ref a1), .val (.int (2 : Int32))] []) := fun t k => castTop (hf₀.trans (ef_rc59_coderFromArrayLen m (a1) ((2 : Int32)))) k
  obtain ⟨c1, Ar1, q1, S1, M1, Hh1, G1⟩ := (id V_a1)
  obtain ⟨fs, hr, hrun, hended, hW, hsame⟩ := X0.leave (v := (some (.int (0 : Int32)))) (fun h => by rw [Bd.returns] at h; cases h)
  refine ⟨_, _, pre0 _ ?_, hrun, hended, _, _, rfl, ?_, ⟨_, rfl⟩, hW, hsame.mono (by decide) (by decide)⟩
  · refine XS.iloadN X0.here hx rfl (hb hby d_jdk_52_method_15_0) rfl ?_
    refine XS.aloadN X0.here hx rfl (hb hby d_jdk_52_method_15_1) rfl rfl ?_
    refine X0.arraylength hx (by rw [e0]; exact Ar1.1) (State.isArrayOf_alike hZ.alike Ar1.2.1) (g := (mkF m 2 #[.val (.ref a1), .val (.int (2 : Int32))] [(.ref a1), (.int (2 : Int32))])) rfl rfl (hb hby d_jdk_52_method_15_2) _ ?_
    rw [len_of S1 M1]
    refine XS.isub X0.here hx rfl (hb hby d_jdk_52_method_15_3) rfl ?_
    show Steps p.tables e below (s₁.setTop (mkF m 4 #[.val (.ref a1), .val (.int (2 : Int32))] [(.int (0 : Int32))])) _
    refine XS.bipush X0.here hx rfl (hb hby d_jdk_52_method_15_4) ?_
    refine XS.iushr X0.here hx rfl (hb hby d_jdk_52_method_15_6) rfl ?_
    show Steps p.tables e below (s₁.setTop (mkF m 7 #[.val (.ref a1), .val (.int (2 : Int32))] [(.int (0 : Int32))])) _
    refine XS.i2b X0.here hx rfl (hb hby d_jdk_52_method_15_7) rfl ?_
    show Steps p.tables e below (s₁.setTop (mkF m 8 #[.val (.ref a1), .val (.int (2 : Int32))] [(.int (0 : Int32))])) _
    exact retN X0 hx (t := .byte) Bd.returns (by simp) (hb hby d_jdk_52_method_15_8) hr
  · show Q_rc59_coderFromArrayLen Z a1 k2 i3 i4 h0 n0 _ s₁.heap _
    rw [e0]
    exact ⟨rfl, N0, rfl⟩
def Q_rc56_init (Z : State) (a1 : Addr) (a2 : Addr) (k3 : ClassId) (i4 : Int32) (i5 : Int32) (h0 : Heap) (n0 : Nat) (v : Option Value) (h : Heap) (L : List Loc) : Prop := ∃ (x3_b1 : Addr), ∃ (x3_k1 : ClassId), v = none ∧ Fr n0 L ∧ Keep h0 h [a1] ∧ h0.size ≤ x3_b1 ∧ Exa Z h a1 nString_0 ∧ Fld Z h a1 nString_0 "coder" "B" (.int (0 : Int32)) ∧ Fld Z h a1 nString_0 "value" "[B" (.ref x3_b1) ∧ Arv Z h x3_b1 x3_k1 .byte (2 : Int32) [(.int (nar .byte (i4.toInt8.toInt32))), (.int (nar .byte (i5.toInt8.toInt32)))] (.int (0 : Int32))
set_option maxRecDepth 65536 in
set_option maxHeartbeats 40000000 in
theorem rc56_init (l : Launch) (Z : State) (a0 : Array Value) (hw : ∀ d ∈ tables_1, d.before a0 Z = true) (ws : List Jvm.Cond) (cs : Int32) (hS : SB Z cs) (a1 : Addr) (a2 : Addr) (k3 : ClassId) (i4 : Int32) (i5 : Int32) (h0 : Heap) (n0 : Nat) (O0 : Old Z n0 h0) (g_a1 : n0 ≤ a1) (g_a2 : n0 ≤ a2) (E_a1 : Exa Z h0 a1 nString_0) (F_a1_coder : Fld Z h0 a1 nString_0 "coder" "B" (.int (0 : Int32))) (F_a1_value : Fld Z h0 a1 nString_0 "value" "[B" .null) (V_a2 : Arv Z h0 a2 k3 .char (2 : Int32) [(.int i4), (.int i5)] (.int (0 : Int32))) (hy2 : ¬ (255 : Int32) < i4) (hy3 : ¬ (255 : Int32) < i5) :
    Met l my_1 jdk_42_method_149_code 6 none ws ({ frames := 2, cells := 1, slots := 2, locals := 35 } : Room) #[(.ref a1), (.ref a2), (.int (0 : Int32)), (.int (2 : Int32)), .null] Z h0 (Q_rc56_init Z a1 a2 k3 i4 i5 h0 n0) := by
  refine MetFree.of_bodySF (plainFor_of_name pn_1) hisR ?_
  intro p e s m args below meth c s₁ Bd hml0 hP hK
  obtain ⟨rfl, hZ, hh⟩ := hP
  have hx := Bd.exec
  have hby := Bd.bytes
  have hml : c.maxLocals = 6 := hml0
  have hown : s.vm.findClass nString_0 = some m.cls := findClass_of_methodNamed Bd.named
  have hnm := (name_of_methodNamed Bd.named Bd.method).1
  have X0 : Stand p l e ({ frames := 2, cells := 1, slots := 2, locals := 35 } : Room) s m #[(.ref a1), (.ref a2), (.int (0 : Int32)), (.int (2 : Int32)), .null] below meth c s₁ [] 0 0 := Stand.of_body Bd
  have e0 : s₁.heap = h0 := by rw [← hh, Bd.state]; rfl
  have N0 := Fr.nil n0
  obtain ⟨f₀, hf₀⟩ : ∃ f, f = entryFrame m #[(.ref a1), (.ref a2), (.int (0 : Int32)), (.int (2 : Int32)), .null] 6 := ⟨_, rfl⟩
  rw [← hf₀]
  have pre0 : Go p e below s₁ f₀ s₁ (mkF m 0 #[.val (.ref a1), .val (.ref a2), .val (.int (0 : Int32)), .val (.int (2 : Int32)), .val .null, .unset] []) := fun t k => castTop (hf₀.trans (ef_rc56_init m (a1) (a2) ((0 : Int32)) ((2 : Int32)))) k
  obtain ⟨T1, X1, e1, st1⟩ := initO X0 hx hZ hown (wq hw 16 rfl) (wq hw 17 rfl) (wq hw 18 rfl) e0 (g := (mkF m 1 #[.val (.ref a1), .val (.ref a2), .val (.int (0 : Int32)), .val (.int (2 : Int32)), .val .null, .unset] [(.ref a1)])) rfl (by rw [hml]; rfl) rfl (hb hby d_jdk_42_method_149_1) (by decide) (W := 0) (by show 2 * 0 + _ ≤ _; exact Nat.le_of_eq rfl) (by decide)
  obtain ⟨T2, X2, e2, st2⟩ := getS2 X1 hx hZ hown (host := "") (Or.inl (wq hw 36 rfl)) Via.refl e1 (hS.1.ext O0.2) (g := (mkF m 27 #[.val (.ref a1), .val (.ref a2), .val (.int (0 : Int32)), .val (.int (2 : Int32)), .val .null, .unset] [])) rfl (hb hby d_jdk_42_method_149_27)
  obtain ⟨_, _, ⟨T3, L3, k3, n3⟩, -, X3, ⟨Lc3, hQ3, l3, y3, z3⟩, st3⟩ := Jvm.LawKit.callS X2 hx (y := my_11) hown (mvT hZ (wq hw 37 rfl)) (mvT hZ (wq hw 38 rfl)) (mvT hZ (wq hw 39 rfl)) (mvT hZ (wq hw 40 rfl)) (by decide) (backOf (W := 0) (rc57_compress l Z a0 hw [] cs hS a2 k3 i4 i5 h0 n0 O0 g_a2 V_a2 hy2 hy3) hZ (wq hw 40 rfl) (wq hw 39 rfl) (by decide) (by decide)) (g := (mkF m 36 #[.val (.ref a1), .val (.ref a2), .val (.int (0 : Int32)), .val (.int (2 : Int32)), .val .null, .unset] [(.int (2 : Int32)), (.int (0 : Int32)), (.ref a2)])) rfl (by rw [hml]; rfl) (argsL := [(.ref a2), (.int (0 : Int32)), (.int (2 : Int32))]) (rest := []) (lenOf pd_9 rfl) rfl (by show 2 * 0 + _ ≤ _; exact Nat.le_of_eq rfl) (hb hby d_jdk_42_method_149_36) (fun _ _ => ⟨rfl, e2, (by decide : 0 + 1 ≤ _), (by decide : 0 + 2 ≤ _)⟩)
  dsimp only [Pt.U, Pt.locs, Pt.cells, Pt.slots] at X3 l3 y3 z3 st3 hQ3
  have X3 := own_to X3 l3 y3 z3
  obtain ⟨x3_b1, x3_k1, rfl, N3q, K3, sz3_b1, q3_0⟩ := hQ3
  have N3 := Fr.app N0 N3q
  have g4 : n0 ≤ x3_b1 := Nat.le_trans (Nat.le_of_eq O0.1.symm) (Nat.le_trans O0.2.1 sz3_b1)
  have s5 : h0.size ≤ x3_b1 := Nat.le_trans (Keep.refl h0 [a1]).1 sz3_b1
  have ne6 : a1 ≠ x3_b1 := Nat.ne_of_lt (Nat.lt_of_lt_of_le E_a1.lt sz3_b1)
  have ne7 : a2 ≠ x3_b1 := Nat.ne_of_lt (Nat.lt_of_lt_of_le V_a2.lt sz3_b1)
  have O8 : Old Z n0 T3.heap := Old.keep O0 K3 all0
  have K9 : Keep h0 T3.heap [a1] := (Keep.refl h0 [a1]).trans K3 all0
  obtain ⟨_, _, ⟨T10, L10, k10, n10⟩, -, X10, ⟨Lc10, hQ10, l10, y10, z10⟩, st10⟩ := Jvm.LawKit.callS X3 hx (y := my_12) hown (mvT hZ (wq hw 44 rfl)) (mvT hZ (wq hw 45 rfl)) (mvT hZ (wq hw 39 rfl)) (mvT hZ (wq hw 46 rfl)) (by decide) (backOf (W := 1) (rc59_coderFromArrayLen l Z a0 hw [] cs hS x3_b1 x3_k1 (nar .byte (i4.toInt8.toInt32)) (nar .byte (i5.toInt8.toInt32)) T3.heap n0 O8 g4 q3_0) hZ (wq hw 46 rfl) (wq hw 39 rfl) (by decide) (by decide)) (g := (mkF m 45 #[.val (.ref a1), .val (.ref a2), .val (.int (0 : Int32)), .val (.int (2 : Int32)), .val .null, .val (.ref x3_b1)] [(.int (2 : Int32)), (.ref x3_b1), (.ref a1)])) rfl (by rw [hml]; rfl) (argsL := [(.ref x3_b1), (.int (2 : Int32))]) (rest := [(.ref a1)]) (lenOf pd_11 rfl) rfl (by show 2 * 0 + _ ≤ _; exact Nat.le_of_eq rfl) (hb hby d_jdk_42_method_149_45) (fun _ _ => ⟨rfl, rfl, (by decide : 1 + 0 ≤ _), (by decide : 2 + 0 ≤ _)⟩)
  dsimp only [Pt.U, Pt.locs, Pt.cells, Pt.slots] at X10 l10 y10 z10 st10 hQ10
  have X10 := own_to X10 l10 y10 z10
  obtain ⟨rfl, N10q, e10⟩ := hQ10
  have N10 := Fr.app N3 N10q
  have t11 : Exa Z T3.heap a1 nString_0 := (E_a1.keep K3)
  have t12 : Fld Z T3.heap a1 nString_0 "coder" "B" (.int (0 : Int32)) := (F_a1_coder.keep K3 nin0)
  obtain ⟨T13, h13, X13, e13, W13, st13⟩ := putFN X10 hx hZ hown (wq hw 26 rfl) Via.refl e10 t12 t11 (Or.inr ⟨(wq hw 22 rfl), rfl, hnm⟩) (wq hw 6 rfl) (ty := .byte) (v' := (.int (0 : Int32))) (by decide) rfl (by decide +kernel) (g := (mkF m 48 #[.val (.ref a1), .val (.ref a2), .val (.int (0 : Int32)), .val (.int (2 : Int32)), .val .null, .val (.ref x3_b1)] [(.int (0 : Int32)), (.ref a1)])) rfl rfl (hb hby d_jdk_42_method_149_48)
  have f14 : Fld Z h13 a1 nString_0 "coder" "B" (.int (0 : Int32)) := t12.same W13
  have N13 := Fr.snoc X13 N10 g_a1
  have O15 : Old Z n0 h13 := Old.wr O8 W13 g_a1
  have K16 : Keep h0 h13 [a1] := K9.wr W13 (Or.inl (List.mem_of_getElem? (i := 0) rfl))
  have t17 : Exa Z h13 a1 nString_0 := (t11.wr W13)
  have t18 : Fld Z h13 a1 nString_0 "value" "[B" .null := ((F_a1_value.keep K3 nin0).other W13 (Or.inr (slot_ne (Or.inr (wq hw 21 rfl)) (Or.inr (wq hw 22 rfl)) (by decide) (t := (.array .byte)) (t' := .byte) (by decide) (by decide))))
  obtain ⟨T19, h19, X19, e19, W19, st19⟩ := putF X13 hx hZ hown (host := "") (Or.inl (wq hw 25 rfl)) Via.refl e13 t18 t17 (Or.inr ⟨(wq hw 21 rfl), rfl, hnm⟩) (wq hw 6 rfl) (ty := (.array .byte)) (by decide) rfl rfl (g := (mkF m 54 #[.val (.ref a1), .val (.ref a2), .val (.int (0 : Int32)), .val (.int (2 : Int32)), .val .null, .val (.ref x3_b1)] [(.ref x3_b1), (.ref a1)])) rfl rfl (hb hby d_jdk_42_method_149_54)
  have f20 : Fld Z h19 a1 nString_0 "value" "[B" (.ref x3_b1) := t18.same W19
  have N19 := Fr.snoc X19 N13 g_a1
  have O21 : Old Z n0 h19 := Old.wr O15 W19 g_a1
  have K22 : Keep h0 h19 [a1] := K16.wr W19 (Or.inl (List.mem_of_getElem? (i := 0) rfl))
  have t23 : Exa Z h19 a1 nString_0 := (t17.wr W19)
  have t24 : Fld Z h19 a1 nString_0 "coder" "B" (.int (0 : Int32)) := (f14.other W19 (Or.inr (slot_ne (Or.inr (wq hw 22 rfl)) (Or.inr (wq hw 21 rfl)) (by decide) (t := .byte) (t' := (.array .byte)) (by decide) (by decide))))
  have t25 : Arv Z h19 x3_b1 x3_k1 .byte (2 : Int32) [(.int (nar .byte (i4.toInt8.toInt32))), (.int (nar .byte (i5.toInt8.toInt32)))] (.int (0 : Int32)) := ((q3_0.other W13 (Ne.symm ne6)).other W19 (Ne.symm ne6))
  obtain ⟨fs, hr, hrun, hended, hW, hsame⟩ := X19.leave (v := none) (fun _ => rfl)
  refine ⟨_, _, pre0 _ ?_, hrun, hended, _, _, rfl, ?_, ⟨_, rfl⟩, hW, hsame.mono (by decide) (by decide)⟩
  · refine XS.aloadN X0.here hx rfl (hb hby d_jdk_42_method_149_0) rfl rfl ?_
    refine st1 _ ?_
    refine XS.iloadN X1.here hx rfl (hb hby d_jdk_42_method_149_4) rfl ?_
    refine XS.ifYes X1.here hx rfl (pc0 := 5) (pc' := 27) rfl (hb hby d_jdk_42_method_149_5) rfl ((if0 _ _).trans (feq (by decide : ¬ ((2 : Int32) = (0 : Int32)))).2) (by decide) (by decide) ?_
    refine st2 _ ?_
    refine XS.ifNo X2.here hx rfl (hb hby d_jdk_42_method_149_30) rfl ((if0 _ _).trans (feq hS.2.1).1) ?_
    refine XS.aloadN X2.here hx rfl (hb hby d_jdk_42_method_149_33) rfl rfl ?_
    refine XS.iloadN X2.here hx rfl (hb hby d_jdk_42_method_149_34) rfl ?_
    refine XS.iloadN X2.here hx rfl (hb hby d_jdk_42_method_149_35) rfl ?_
    refine st3 _ ?_
    refine XS.astore X3.here hx rfl (hb hby d_jdk_42_method_149_39) rfl rfl (l' := #[.val (.ref a1), .val (.ref a2), .val (.int (0 : Int32)), .val (.int (2 : Int32)), .val .null, .val (.ref x3_b1)]) rfl ?_
    refine XS.aloadN X3.here hx rfl (hb hby d_jdk_42_method_149_41) rfl rfl ?_
    refine XS.aload X3.here hx rfl (hb hby d_jdk_42_method_149_42) rfl rfl ?_
    refine XS.iloadN X3.here hx rfl (hb hby d_jdk_42_method_149_44) rfl ?_
    refine st10 _ ?_
    refine st13 _ ?_
    refine XS.aloadN X13.here hx rfl (hb hby d_jdk_42_method_149_51) rfl rfl ?_
    refine XS.aload X13.here hx rfl (hb hby d_jdk_42_method_149_52) rfl rfl ?_
    refine st19 _ ?_
    exact X19.returnOut hx Bd.returns (hb hby d_jdk_42_method_149_57) hr
  · show Q_rc56_init Z a1 a2 k3 i4 i5 h0 n0 _ T19.heap _
    rw [e19]
    exact ⟨x3_b1, x3_k1, rfl, N19, K22, s5, t23, t24, f20, t25⟩
def Q_rc55_init (Z : State) (a1 : Addr) (a2 : Addr) (k3 : ClassId) (i4 : Int32) (i5 : Int32) (h0 : Heap) (n0 : Nat) (v : Option Value) (h : Heap) (L : List Loc) : Prop := ∃ (x2_x3_b1 : Addr), ∃ (x2_x3_k1 : ClassId), v = none ∧ Fr n0 L ∧ Keep h0 h [a1] ∧ h0.size ≤ x2_x3_b1 ∧ Exa Z h a1 nString_0 ∧ Fld Z h a1 nString_0 "coder" "B" (.int (0 : Int32)) ∧ Fld Z h a1 nString_0 "value" "[B" (.ref x2_x3_b1) ∧ Arv Z h x2_x3_b1 x2_x3_k1 .byte (2 : Int32) [(.int (nar .byte (i4.toInt8.toInt32))), (.int (nar .byte (i5.toInt8.toInt32)))] (.int (0 : Int32))
set_option maxRecDepth 65536 in
set_option maxHeartbeats 40000000 in
theorem rc55_init (l : Launch) (Z : State) (a0 : Array Value) (hw : ∀ d ∈ tables_1, d.before a0 Z = true) (ws : List Jvm.Cond) (cs : Int32) (hS : SB Z cs) (a1 : Addr) (a2 : Addr) (k3 : ClassId) (i4 : Int32) (i5 : Int32) (h0 : Heap) (n0 : Nat) (O0 : Old Z n0 h0) (g_a1 : n0 ≤ a1) (g_a2 : n0 ≤ a2) (E_a1 : Exa Z h0 a1 nString_0) (F_a1_coder : Fld Z h0 a1 nString_0 "coder" "B" (.int (0 : Int32))) (F_a1_value : Fld Z h0 a1 nString_0 "value" "[B" .null) (V_a2 : Arv Z h0 a2 k3 .char (2 : Int32) [(.int i4), (.int i5)] (.int (0 : Int32))) (hy2 : ¬ (255 : Int32) < i4) (hy3 : ¬ (255 : Int32) < i5) :
    Met l my_2 jdk_42_method_3_code 2 none ws ({ frames := 3, cells := 1, slots := 2, locals := 52 } : Room) #[(.ref a1), (.ref a2)] Z h0 (Q_rc55_init Z a1 a2 k3 i4 i5 h0 n0) := by
  refine MetFree.of_bodySF (plainFor_of_name pn_1) hisR ?_
  intro p e s m args below meth c s₁ Bd hml0 hP hK
  obtain ⟨rfl, hZ, hh⟩ := hP
  have hx := Bd.exec
  have hby := Bd.bytes
  have hml : c.maxLocals = 2 := hml0
  have hown : s.vm.findClass nString_0 = some m.cls := findClass_of_methodNamed Bd.named
  have hnm := (name_of_methodNamed Bd.named Bd.method).1
  have X0 : Stand p l e ({ frames := 3, cells := 1, slots := 2, locals := 52 } : Room) s m #[(.ref a1), (.ref a2)] below meth c s₁ [] 0 0 := Stand.of_body Bd
  have e0 : s₁.heap = h0 := by rw [← hh, Bd.state]; rfl
  have N0 := Fr.nil n0
  obtain ⟨f₀, hf₀⟩ : ∃ f, f = entryFrame m #[(.ref a1), (.ref a2)] 2 := ⟨_, rfl⟩
  rw [← hf₀]
  have pre0 : Go p e below s₁ f₀ s₁ (mkF m 0 #[.val (.ref a1), .val (.ref a2)] []) := fun t k => castTop (hf₀.trans (ef_rc55_init m (a1) (a2))) k
  obtain ⟨c1, Ar1, q1, S1, M1, Hh1, G1⟩ := (id V_a2)
  obtain ⟨_, _, ⟨T2, L2, k2, n2⟩, -, X2, ⟨Lc2, hQ2, l2, y2, z2⟩, st2⟩ := X0.specialBack hx (y := my_1) rfl hown (mvT hZ (wq hw 12 rfl)) (mvT hZ (wq hw 13 rfl)) (mvT hZ (wq hw 15 rfl)) (by decide) (backOf (W := 0) (rc56_init l Z a0 hw [] cs hS a1 a2 k3 i4 i5 h0 n0 O0 g_a1 g_a2 E_a1 F_a1_coder F_a1_value V_a2 hy2 hy3) hZ (wq hw 15 rfl) (wq hw 7 rfl) (by decide) (by decide)) (g := (mkF m 6 #[.val (.ref a1), .val (.ref a2)] [.null, (.int (2 : Int32)), (.int (0 : Int32)), (.ref a2), (.ref a1)])) rfl (by rw [hml]; rfl) (Steps.refl _) (a := a1) (argsL := [(.ref a2), (.int (0 : Int32)), (.int (2 : Int32)), .null]) (rest := []) (lenOf pd_1 rfl) rfl (by show 2 * 0 + _ ≤ _; exact Nat.le_of_eq rfl) (hb hby d_jdk_42_method_3_6) (fun _ _ => ⟨rfl, e0, (by decide : 0 + 1 ≤ _), (by decide : 0 + 2 ≤ _)⟩)
  dsimp only [Pt.U, Pt.locs, Pt.cells, Pt.slots] at X2 l2 y2 z2 st2 hQ2
  have X2 := own_to X2 l2 y2 z2
  obtain ⟨x2_x3_b1, x2_x3_k1, rfl, N2q, K2, sz2_x3_b1, q2_0, q2_1, q2_2, q2_3⟩ := hQ2
  have N2 := Fr.app N0 N2q
  have g3 : n0 ≤ x2_x3_b1 := Nat.le_trans (Nat.le_of_eq O0.1.symm) (Nat.le_trans O0.2.1 sz2_x3_b1)
  have s4 : h0.size ≤ x2_x3_b1 := Nat.le_trans (Keep.refl h0 [a1]).1 sz2_x3_b1
  have ne5 : a1 ≠ x2_x3_b1 := Nat.ne_of_lt (Nat.lt_of_lt_of_le E_a1.lt sz2_x3_b1)
  have ne6 : a2 ≠ x2_x3_b1 := Nat.ne_of_lt (Nat.lt_of_lt_of_le V_a2.lt sz2_x3_b1)
  have O7 : Old Z n0 T2.heap := Old.keep O0 K2 (allS g_a1 all0)
  have K8 : Keep h0 T2.heap [a1] := (Keep.refl h0 [a1]).trans K2 (allS (Or.inl (List.mem_of_getElem? (i := 0) rfl)) all0)
  obtain ⟨fs, hr, hrun, hended, hW, hsame⟩ := X2.leave (v := none) (fun _ => rfl)
  refine ⟨_, _, pre0 _ ?_, hrun, hended, _, _, rfl, ?_, ⟨_, rfl⟩, hW, hsame.mono (by decide) (by decide)⟩
  · refine XS.aloadN X0.here hx rfl (hb hby d_jdk_42_method_3_0) rfl rfl ?_
    refine XS.aloadN X0.here hx rfl (hb hby d_jdk_42_method_3_1) rfl rfl ?_
    refine XS.iconst X0.here hx rfl (hb hby d_jdk_42_method_3_2) ?_
    refine XS.aloadN X0.here hx rfl (hb hby d_jdk_42_method_3_3) rfl rfl ?_
    refine X0.arraylength hx (by rw [e0]; exact Ar1.1) (State.isArrayOf_alike hZ.alike Ar1.2.1) (g := (mkF m 4 #[.val (.ref a1), .val (.ref a2)] [(.ref a2), (.int (0 : Int32)), (.ref a2), (.ref a1)])) rfl rfl (hb hby d_jdk_42_method_3_4) _ ?_
    rw [len_of S1 M1]
    refine XS.aconstNull X0.here hx rfl (hb hby d_jdk_42_method_3_5) ?_
    refine st2.trans ?_
    exact X2.returnOut hx Bd.returns (hb hby d_jdk_42_method_3_9) hr
  · show Q_rc55_init Z a1 a2 k3 i4 i5 h0 n0 _ T2.heap _
    exact ⟨x2_x3_b1, x2_x3_k1, rfl, N2, K8, s4, q2_0, q2_1, q2_2, q2_3⟩
def Q_rc54_make (Z : State) (i1 : Int32) (i2 : Int32) (i3 : Int32) (h0 : Heap) (n0 : Nat) (v : Option Value) (h : Heap) (L : List Loc) : Prop := ∃ (b1 : Addr), ∃ (x30_x2_x3_b1 : Addr), ∃ (x30_x2_x3_k1 : ClassId), v = some (.ref b1) ∧ Fr n0 L ∧ Keep h0 h [] ∧ h0.size ≤ b1 ∧ h0.size ≤ x30_x2_x3_b1 ∧ Exa Z h b1 nString_0 ∧ Fld Z h b1 nString_0 "coder" "B" (.int (0 : Int32)) ∧ Fld Z h b1 nString_0 "value" "[B" (.ref x30_x2_x3_b1) ∧ Arv Z h x30_x2_x3_b1 x30_x2_x3_k1 .byte (2 : Int32) [(.int (nar .byte (i1.toInt8.toInt32))), (.int (nar .byte (i2.toInt8.toInt32)))] (.int (0 : Int32))
set_option maxRecDepth 65536 in
set_option maxHeartbeats 40000000 in
theorem rc54_make (l : Launch) (Z : State) (a0 : Array Value) (hw : ∀ d ∈ tables_1, d.before a0 Z = true) (ws : List Jvm.Cond) (cs : Int32) (hS : SB Z cs) (i1 : Int32) (i2 : Int32) (i3 : Int32) (h0 : Heap) (n0 : Nat) (O0 : Old Z n0 h0) (hy0 : nar .char i1 = i1) (hy1 : nar .char i2 = i2) (hy3 : ¬ (255 : Int32) < i1) (hy4 : ¬ (255 : Int32) < i2) :
    Met l my_3 method_2_code 4 (some (.object nString_0)) ws ({ frames := 4, cells := 3, slots := 8, locals := 66 } : Room) #[(.int (2 : Int32)), (.int i1), (.int i2), (.int i3)] Z h0 (Q_rc54_make Z i1 i2 i3 h0 n0) := by
  refine MetFree.of_bodySF (plainFor_of_name pn_2) hisR ?_
  intro p e s m args below meth c s₁ Bd hml0 hP hK
  obtain ⟨rfl, hZ, hh⟩ := hP
  have hx := Bd.exec
  have hby := Bd.bytes
  have hml : c.maxLocals = 4 := hml0
  have hown : s.vm.findClass nUnfore_3 = some m.cls := findClass_of_methodNamed Bd.named
  have hnm := (name_of_methodNamed Bd.named Bd.method).1
  have X0 : Stand p l e ({ frames := 4, cells := 3, slots := 8, locals := 66 } : Room) s m #[(.int (2 : Int32)), (.int i1), (.int i2), (.int i3)] below meth c s₁ [] 0 0 := Stand.of_body Bd
  have e0 : s₁.heap = h0 := by rw [← hh, Bd.state]; rfl
  have N0 := Fr.nil n0
  obtain ⟨f₀, hf₀⟩ : ∃ f, f = entryFrame m #[(.int (2 : Int32)), (.int i1), (.int i2), (.int i3)] 4 := ⟨_, rfl⟩
  rw [← hf₀]
  have pre0 : Go p e below s₁ f₀ s₁ (mkF m 0 #[.val (.int (2 : Int32)), .val (.int i1), .val (.int i2), .val (.int i3)] []) := fun t k => castTop (hf₀.trans (ef_rc54_make m ((2 : Int32)) (i1) (i2) (i3))) k
  obtain ⟨T1, h1, X1, e1, E1, A1, D1, -, st1⟩ := newO X0 hx hZ hown (wq hw 5 rfl) (wq hw 6 rfl) (wq hw 7 rfl) e0 (g := (mkF m 40 #[.val (.int (2 : Int32)), .val (.int i1), .val (.int i2), .val (.int i3)] [])) rfl (hb hby d_method_2_40) (by decide) (by decide)
  obtain ⟨b1, gb1⟩ : ∃ z, z = h0.size := ⟨_, rfl⟩
  rw [← gb1] at A1 D1 st1
  have g2 : n0 ≤ b1 := Nat.le_trans (Nat.le_of_eq O0.1.symm) (Nat.le_trans O0.2.1 (Nat.le_of_eq gb1.symm))
  have s3 : h0.size ≤ b1 := Nat.le_trans (Keep.refl h0 []).1 (Nat.le_of_eq gb1.symm)
  have O4 : Old Z n0 h1 := Old.ext O0 E1
  have K5 : Keep h0 h1 [] := (Keep.refl h0 []).ext E1
  have f6 : Fld Z h1 b1 nString_0 "value" "[B" .null := D1 (Or.inr (wq hw 21 rfl)) (ty := (.array .byte)) (by decide)
  have f7 : Fld Z h1 b1 nString_0 "coder" "B" (.int (0 : Int32)) := D1 (Or.inr (wq hw 22 rfl)) (ty := .byte) (by decide)
  obtain ⟨T8, h8, k8, X8, e8, E8, A8, st8⟩ := newP X1 hx hZ (wq hw 8 rfl) e1 (g := (mkF m 45 #[.val (.int (2 : Int32)), .val (.int i1), .val (.int i2), .val (.int i3)] [(.int (2 : Int32)), (.ref b1), (.ref b1)])) rfl (hb hby d_method_2_45) rfl (by decide) (cap := 2) (by decide) (by decide) (by decide) (by decide)
  obtain ⟨b8, gb8⟩ : ∃ z, z = h1.size := ⟨_, rfl⟩
  rw [← gb8] at A8 st8
  have ne9 : b1 ≠ b8 := Nat.ne_of_lt (Nat.lt_of_lt_of_le A1.lt (Nat.le_of_eq gb8.symm))
  have g10 : n0 ≤ b8 := Nat.le_trans (Nat.le_of_eq O4.1.symm) (Nat.le_trans O4.2.1 (Nat.le_of_eq gb8.symm))
  have s11 : h0.size ≤ b8 := Nat.le_trans K5.1 (Nat.le_of_eq gb8.symm)
  have O12 : Old Z n0 h8 := Old.ext O4 E8
  have K13 : Keep h0 h8 [] := K5.ext E8
  have v14 : Arv Z h8 b8 k8 .char (2 : Int32) [(.int (0 : Int32)), (.int (0 : Int32))] (.int (0 : Int32)) := (Arv.new A8 (by decide)).pad (pad_rep [] (.int (0 : Int32)) 2)
  obtain ⟨c15, Ar15, q15, S15, M15, Hh15, G15⟩ := (id v14)
  have hin15 : ¬ ((0 : Int32) < 0 ∨ c15.slots.size ≤ ((0 : Int32)).toNatClampNeg) := inb_of S15 ⟨by decide, by decide⟩
  obtain ⟨T16, h16, X16, e16, W16, st16⟩ := stC X8 hx hZ e8 Ar15 (j := (0 : Int32)) hin15 (g := (mkF m 50 #[.val (.int (2 : Int32)), .val (.int i1), .val (.int i2), .val (.int i3)] [(.int i1), (.int (0 : Int32)), (.ref b8), (.ref b8), (.ref b1), (.ref b1)])) rfl rfl (hb hby d_method_2_50)
  have v17 : Arv Z h16 b8 k8 .char (2 : Int32) [(.int (nar .char i1)), (.int (0 : Int32))] (.int (0 : Int32)) := Arv.set Ar15 q15 S15 M15 Hh15 G15 (fits_nar_char _) W16 0 rfl (Nat.le_of_ble_eq_true rfl)
  have v18 : Arv Z h16 b8 k8 .char (2 : Int32) [(.int i1), (.int (0 : Int32))] (.int (0 : Int32)) := by rw [hy0] at v17; exact v17
  have N16 := Fr.snoc X16 N0 g10
  have O19 : Old Z n0 h16 := Old.wr O12 W16 g10
  have K20 : Keep h0 h16 [] := K13.wr W16 (Or.inr s11)
  obtain ⟨c21, Ar21, q21, S21, M21, Hh21, G21⟩ := (id v18)
  have hin21 : ¬ ((1 : Int32) < 0 ∨ c21.slots.size ≤ ((1 : Int32)).toNatClampNeg) := inb_of S21 ⟨by decide, by decide⟩
  obtain ⟨T22, h22, X22, e22, W22, st22⟩ := stC X16 hx hZ e16 Ar21 (j := (1 : Int32)) hin21 (g := (mkF m 54 #[.val (.int (2 : Int32)), .val (.int i1), .val (.int i2), .val (.int i3)] [(.int i2), (.int (1 : Int32)), (.ref b8), (.ref b8), (.ref b1), (.ref b1)])) rfl rfl (hb hby d_method_2_54)
  have v23 : Arv Z h22 b8 k8 .char (2 : Int32) [(.int i1), (.int (nar .char i2))] (.int (0 : Int32)) := Arv.set Ar21 q21 S21 M21 Hh21 G21 (fits_nar_char _) W22 1 rfl (Nat.le_of_ble_eq_true rfl)
  have v24 : Arv Z h22 b8 k8 .char (2 : Int32) [(.int i1), (.int i2)] (.int (0 : Int32)) := by rw [hy1] at v23; exact v23
  have N22 := Fr.snoc X22 N16 g10
  have O25 : Old Z n0 h22 := Old.wr O19 W22 g10
  have K26 : Keep h0 h22 [] := K20.wr W22 (Or.inr s11)
  have t27 : Exa Z h22 b1 nString_0 := (((A1.ext E8).wr W16).wr W22)
  have t28 : Fld Z h22 b1 nString_0 "coder" "B" (.int (0 : Int32)) := (((f7.ext E8).other W16 (Or.inl ne9)).other W22 (Or.inl ne9))
  have t29 : Fld Z h22 b1 nString_0 "value" "[B" .null := (((f6.ext E8).other W16 (Or.inl ne9)).other W22 (Or.inl ne9))
  obtain ⟨_, _, ⟨T30, L30, k30, n30⟩, -, X30, ⟨Lc30, hQ30, l30, y30, z30⟩, st30⟩ := X22.specialBack hx (y := my_2) rfl hown (mvT hZ (wq hw 9 rfl)) (mvT hZ (wq hw 10 rfl)) (mvT hZ (wq hw 11 rfl)) (by decide) (backOf (W := 1) (rc55_init l Z a0 hw [] cs hS b1 b8 k8 i1 i2 h22 n0 O25 g2 g10 t27 t28 t29 v24 hy3 hy4) hZ (wq hw 11 rfl) (wq hw 7 rfl) (by decide) (by decide)) (g := (mkF m 55 #[.val (.int (2 : Int32)), .val (.int i1), .val (.int i2), .val (.int i3)] [(.ref b8), (.ref b1), (.ref b1)])) rfl (by rw [hml]; rfl) (Steps.refl _) (a := b1) (argsL := [(.ref b8)]) (rest := [(.ref b1)]) (lenOf pd_2 rfl) rfl (by show 2 * 0 + _ ≤ _; exact Nat.le_of_eq rfl) (hb hby d_method_2_55) (fun _ _ => ⟨rfl, e22, (by decide : 2 + 1 ≤ _), (by decide : 6 + 2 ≤ _)⟩)
  dsimp only [Pt.U, Pt.locs, Pt.cells, Pt.slots] at X30 l30 y30 z30 st30 hQ30
  have X30 := own_to X30 l30 y30 z30
  obtain ⟨x30_x2_x3_b1, x30_x2_x3_k1, rfl, N30q, K30, sz30_x2_x3_b1, q30_0, q30_1, q30_2, q30_3⟩ := hQ30
  have N30 := Fr.app N22 N30q
  have g31 : n0 ≤ x30_x2_x3_b1 := Nat.le_trans (Nat.le_of_eq O25.1.symm) (Nat.le_trans O25.2.1 sz30_x2_x3_b1)
  have s32 : h0.size ≤ x30_x2_x3_b1 := Nat.le_trans K26.1 sz30_x2_x3_b1
  have ne33 : b1 ≠ x30_x2_x3_b1 := Nat.ne_of_lt (Nat.lt_of_lt_of_le t27.lt sz30_x2_x3_b1)
  have ne34 : b8 ≠ x30_x2_x3_b1 := Nat.ne_of_lt (Nat.lt_of_lt_of_le v24.lt sz30_x2_x3_b1)
  have O35 : Old Z n0 T30.heap := Old.keep O25 K30 (allS g2 all0)
  have K36 : Keep h0 T30.heap [] := K26.trans K30 (allS (Or.inr s3) all0)
  obtain ⟨fs, hr, hrun, hended, hW, hsame⟩ := X30.leave (v := (some (.ref b1))) (fun h => by rw [Bd.returns] at h; cases h)
  refine ⟨_, _, pre0 _ ?_, hrun, hended, _, _, rfl, ?_, ⟨_, rfl⟩, hW, hsame.mono (by decide) (by decide)⟩
  · refine XS.iloadN X0.here hx rfl (hb hby d_method_2_0) rfl ?_
    refine XS.ifYes X0.here hx rfl (pc0 := 1) (pc' := 15) rfl (hb hby d_method_2_1) rfl ((if0 _ _).trans (feq (by decide : ¬ ((2 : Int32) = (0 : Int32)))).2) (by decide) (by decide) ?_
    refine XS.iloadN X0.here hx rfl (hb hby d_method_2_15) rfl ?_
    refine XS.iconst X0.here hx rfl (hb hby d_method_2_16) ?_
    refine XS.icmpYes X0.here hx rfl (pc0 := 17) (pc' := 35) rfl (hb hby d_method_2_17) rfl (feq (by decide : ¬ ((2 : Int32) = (1 : Int32)))).2 (by decide) (by decide) ?_
    refine XS.iloadN X0.here hx rfl (hb hby d_method_2_35) rfl ?_
    refine XS.iconst X0.here hx rfl (hb hby d_method_2_36) ?_
    refine XS.icmpNo X0.here hx rfl (hb hby d_method_2_37) rfl (teq (by decide : (2 : Int32) = (2 : Int32))).2 ?_
    refine st1 _ ?_
    refine XS.dup X1.here hx rfl (hb hby d_method_2_43) rfl rfl ?_
    refine XS.iconst X1.here hx rfl (hb hby d_method_2_44) ?_
    refine st8 _ ?_
    refine XS.dup X8.here hx rfl (hb hby d_method_2_47) rfl rfl ?_
    refine XS.iconst X8.here hx rfl (hb hby d_method_2_48) ?_
    refine XS.iloadN X8.here hx rfl (hb hby d_method_2_49) rfl ?_
    refine st16 _ ?_
    refine XS.dup X16.here hx rfl (hb hby d_method_2_51) rfl rfl ?_
    refine XS.iconst X16.here hx rfl (hb hby d_method_2_52) ?_
    refine XS.iloadN X16.here hx rfl (hb hby d_method_2_53) rfl ?_
    refine st22 _ ?_
    refine st30.trans ?_
    exact retOut X30 hx Bd.returns rfl (Or.inr (Or.inr (Or.inr (Or.inr ⟨rfl, rfl, rfl⟩)))) (hb hby d_method_2_58) hr
  · show Q_rc54_make Z i1 i2 i3 h0 n0 _ T30.heap _
    exact ⟨b1, x30_x2_x3_b1, x30_x2_x3_k1, rfl, N30, K36, s3, s32, q30_0, q30_1, q30_2, q30_3⟩
def Q_rc62_equals (Z : State) (a1 : Addr) (a2 : Addr) (k3 : ClassId) (i4 : Int32) (i5 : Int32) (k6 : ClassId) (h0 : Heap) (n0 : Nat) (v : Option Value) (h : Heap) (L : List Loc) : Prop := v = some (.int (0 : Int32)) ∧ Fr n0 L ∧ h = h0
set_option maxRecDepth 65536 in
set_option maxHeartbeats 40000000 in
theorem rc62_equals (l : Launch) (Z : State) (a0 : Array Value) (hw : ∀ d ∈ tables_1, d.before a0 Z = true) (ws : List Jvm.Cond) (cs : Int32) (hS : SB Z cs) (a1 : Addr) (a2 : Addr) (k3 : ClassId) (i4 : Int32) (i5 : Int32) (k6 : ClassId) (h0 : Heap) (n0 : Nat) (O0 : Old Z n0 h0) (g_a1 : n0 ≤ a1) (V_a1 : Arv Z h0 a1 k3 .byte (2 : Int32) [(.int i4), (.int i5)] (.int (0 : Int32))) (V_a2 : Arv Z h0 a2 k6 .byte (1 : Int32) [(.int (48 : Int32))] (.int (0 : Int32))) :
    Met l my_14 jdk_43_method_13_code 3 (some .boolean) ws ({ frames := 0, cells := 0, slots := 0, locals := 0 } : Room) #[(.ref a1), (.ref a2)] Z h0 (Q_rc62_equals Z a1 a2 k3 i4 i5 k6 h0 n0) := by
  refine MetFree.of_bodySF (plainFor_of_name pn_4) hisR ?_
  intro p e s m args below meth c s₁ Bd hml0 hP hK
  obtain ⟨rfl, hZ, hh⟩ := hP
  have hx := Bd.exec
  have hby := Bd.bytes
  have hml : c.maxLocals = 3 := hml0
  have hown : s.vm.findClass "java/lang/StringLatin1" = some m.cls := findClass_of_methodNamed Bd.named
  have hnm := (name_of_methodNamed Bd.named Bd.method).1
  have X0 : Stand p l e ({ frames := 0, cells := 0, slots := 0, locals := 0 } : Room) s m #[(.ref a1), (.ref a2)] below meth c s₁ [] 0 0 := Stand.of_body Bd
  have e0 : s₁.heap = h0 := by rw [← hh, Bd.state]; rfl
  have N0 := Fr.nil n0
  obtain ⟨f₀, hf₀⟩ : ∃ f, f = entryFrame m #[(.ref a1), (.ref a2)] 3 := ⟨_, rfl⟩
  rw [← hf₀]
  have pre0 : Go p e below s₁ f₀ s₁ (mkF m 0 #[.val (.ref a1), .val (.ref a2), .unset] []) := fun t k => castTop (hf₀.trans (ef_rc62_equals m (a1) (a2))) k
  obtain ⟨c1, Ar1, q1, S1, M1, Hh1, G1⟩ := (id V_a1)
  obtain ⟨c2, Ar2, q2, S2, M2, Hh2, G2⟩ := (id V_a2)
  obtain ⟨fs, hr, hrun, hended, hW, hsame⟩ := X0.leave (v := (some (.int (0 : Int32)))) (fun h => by rw [Bd.returns] at h; cases h)
  refine ⟨_, _, pre0 _ ?_, hrun, hended, _, _, rfl, ?_, ⟨_, rfl⟩, hW, hsame.mono (by decide) (by decide)⟩
  · refine XS.aloadN X0.here hx rfl (hb hby d_jdk_43_method_13_0) rfl rfl ?_
    refine X0.arraylength hx (by rw [e0]; exact Ar1.1) (State.isArrayOf_alike hZ.alike Ar1.2.1) (g := (mkF m 1 #[.val (.ref a1), .val (.ref a2), .unset] [(.ref a1)])) rfl rfl (hb hby d_jdk_43_method_13_1) _ ?_
    rw [len_of S1 M1]
    refine XS.aloadN X0.here hx rfl (hb hby d_jdk_43_method_13_2) rfl rfl ?_
    refine X0.arraylength hx (by rw [e0]; exact Ar2.1) (State.isArrayOf_alike hZ.alike Ar2.2.1) (g := (mkF m 3 #[.val (.ref a1), .val (.ref a2), .unset] [(.ref a2), (.int (2 : Int32))])) rfl rfl (hb hby d_jdk_43_method_13_3) _ ?_
    rw [len_of S2 M2]
    refine XS.icmpYes X0.here hx rfl (pc0 := 4) (pc' := 34) rfl (hb hby d_jdk_43_method_13_4) rfl (feq (by decide : ¬ ((2 : Int32) = (1 : Int32)))).2 (by decide) (by decide) ?_
    refine XS.iconst X0.here hx rfl (hb hby d_jdk_43_method_13_34) ?_
    exact retN X0 hx (t := .boolean) Bd.returns (by simp) (hb hby d_jdk_43_method_13_35) hr
  · show Q_rc62_equals Z a1 a2 k3 i4 i5 k6 h0 n0 _ s₁.heap _
    rw [e0]
    exact ⟨rfl, N0, rfl⟩
def Q_rc61_equals (Z : State) (a1 : Addr) (a2 : Addr) (a3 : Addr) (a4 : Addr) (k5 : ClassId) (i6 : Int32) (i7 : Int32) (k8 : ClassId) (h0 : Heap) (n0 : Nat) (v : Option Value) (h : Heap) (L : List Loc) : Prop := v = some (.int (0 : Int32)) ∧ Fr n0 L ∧ h = h0
set_option maxRecDepth 65536 in
set_option maxHeartbeats 40000000 in
theorem rc61_equals (l : Launch) (Z : State) (a0 : Array Value) (hw : ∀ d ∈ tables_1, d.before a0 Z = true) (ws : List Jvm.Cond) (cs : Int32) (hS : SB Z cs) (a1 : Addr) (a2 : Addr) (a3 : Addr) (a4 : Addr) (k5 : ClassId) (i6 : Int32) (i7 : Int32) (k8 : ClassId) (h0 : Heap) (n0 : Nat) (O0 : Old Z n0 h0) (g_a1 : n0 ≤ a1) (g_a3 : n0 ≤ a3) (F_a1_coder : Fld Z h0 a1 nString_0 "coder" "B" (.int (0 : Int32))) (F_a1_value : Fld Z h0 a1 nString_0 "value" "[B" (.ref a3)) (E_a2 : Exa Z h0 a2 nString_0) (F_a2_coder : Fld Z h0 a2 nString_0 "coder" "B" (.int (0 : Int32))) (F_a2_value : Fld Z h0 a2 nString_0 "value" "[B" (.ref a4)) (V_a3 : Arv Z h0 a3 k5 .byte (2 : Int32) [(.int i6), (.int i7)] (.int (0 : Int32))) (V_a4 : Arv Z h0 a4 k8 .byte (1 : Int32) [(.int (48 : Int32))] (.int (0 : Int32))) (hy0 : ¬ a1 = a2) :
    Met l my_13 jdk_42_method_66_code 3 (some .boolean) ws ({ frames := 1, cells := 0, slots := 0, locals := 14 } : Room) #[(.ref a1), (.ref a2)] Z h0 (Q_rc61_equals Z a1 a2 a3 a4 k5 i6 i7 k8 h0 n0) := by
  refine MetFree.of_bodySF (plainFor_of_name pn_1) hisR ?_
  intro p e s m args below meth c s₁ Bd hml0 hP hK
  obtain ⟨rfl, hZ, hh⟩ := hP
  have hx := Bd.exec
  have hby := Bd.bytes
  have hml : c.maxLocals = 3 := hml0
  have hown : s.vm.findClass nString_0 = some m.cls := findClass_of_methodNamed Bd.named
  have hnm := (name_of_methodNamed Bd.named Bd.method).1
  have X0 : Stand p l e ({ frames := 1, cells := 0, slots := 0, locals := 14 } : Room) s m #[(.ref a1), (.ref a2)] below meth c s₁ [] 0 0 := Stand.of_body Bd
  have e0 : s₁.heap = h0 := by rw [← hh, Bd.state]; rfl
  have N0 := Fr.nil n0
  obtain ⟨f₀, hf₀⟩ : ∃ f, f = entryFrame m #[(.ref a1), (.ref a2)] 3 := ⟨_, rfl⟩
  rw [← hf₀]
  have pre0 : Go p e below s₁ f₀ s₁ (mkF m 0 #[.val (.ref a1), .val (.ref a2), .unset] []) := fun t k => castTop (hf₀.trans (ef_rc61_equals m (a1) (a2))) k
  obtain ⟨T1, X1, e1, st1⟩ := instY X0 hx hZ hown (wq hw 53 rfl) e0 (Ins.self E_a2) (g := (mkF m 8 #[.val (.ref a1), .val (.ref a2), .unset] [(.ref a2)])) rfl rfl (hb hby d_jdk_42_method_66_8)
  obtain ⟨T2, X2, e2, st2⟩ := castY X1 hx hZ hown (wq hw 53 rfl) e1 (Ins.self E_a2) (g := (mkF m 15 #[.val (.ref a1), .val (.ref a2), .unset] [(.ref a2)])) rfl rfl (hb hby d_jdk_42_method_66_15)
  obtain ⟨T3, X3, e3, st3⟩ := getS2 X2 hx hZ hown (host := "") (Or.inl (wq hw 36 rfl)) Via.refl e2 (hS.1.ext O0.2) (g := (mkF m 19 #[.val (.ref a1), .val (.ref a2), .val (.ref a2)] [])) rfl (hb hby d_jdk_42_method_66_19)
  obtain ⟨T4, X4, e4, st4⟩ := getF X3 hx hZ hown (host := "") (Or.inl (wq hw 26 rfl)) Via.refl e3 F_a1_coder (g := (mkF m 26 #[.val (.ref a1), .val (.ref a2), .val (.ref a2)] [(.ref a1)])) rfl rfl (hb hby d_jdk_42_method_66_26)
  obtain ⟨T5, X5, e5, st5⟩ := getF X4 hx hZ hown (host := "") (Or.inl (wq hw 26 rfl)) Via.refl e4 F_a2_coder (g := (mkF m 30 #[.val (.ref a1), .val (.ref a2), .val (.ref a2)] [(.ref a2), (.int (0 : Int32))])) rfl rfl (hb hby d_jdk_42_method_66_30)
  obtain ⟨T6, X6, e6, st6⟩ := getF X5 hx hZ hown (host := "") (Or.inl (wq hw 25 rfl)) Via.refl e5 F_a1_value (g := (mkF m 37 #[.val (.ref a1), .val (.ref a2), .val (.ref a2)] [(.ref a1)])) rfl rfl (hb hby d_jdk_42_method_66_37)
  obtain ⟨T7, X7, e7, st7⟩ := getF X6 hx hZ hown (host := "") (Or.inl (wq hw 25 rfl)) Via.refl e6 F_a2_value (g := (mkF m 41 #[.val (.ref a1), .val (.ref a2), .val (.ref a2)] [(.ref a2), (.ref a3)])) rfl rfl (hb hby d_jdk_42_method_66_41)
  obtain ⟨_, _, ⟨T8, L8, k8, n8⟩, -, X8, ⟨Lc8, hQ8, l8, y8, z8⟩, st8⟩ := Jvm.LawKit.callS X7 hx (y := my_14) hown (mvT hZ (wq hw 54 rfl)) (mvT hZ (wq hw 55 rfl)) (mvT hZ (wq hw 56 rfl)) (mvT hZ (wq hw 57 rfl)) (by decide) (backOf (W := 0) (rc62_equals l Z a0 hw [] cs hS a3 a4 k5 i6 i7 k8 h0 n0 O0 g_a3 V_a3 V_a4) hZ (wq hw 57 rfl) (wq hw 56 rfl) (by decide) (by decide)) (g := (mkF m 44 #[.val (.ref a1), .val (.ref a2), .val (.ref a2)] [(.ref a4), (.ref a3)])) rfl (by rw [hml]; rfl) (argsL := [(.ref a3), (.ref a4)]) (rest := []) (lenOf pd_13 rfl) rfl (by show 2 * 0 + _ ≤ _; exact Nat.le_of_eq rfl) (hb hby d_jdk_42_method_66_44) (fun _ _ => ⟨rfl, e7, (by decide : 0 + 0 ≤ _), (by decide : 0 + 0 ≤ _)⟩)
  dsimp only [Pt.U, Pt.locs, Pt.cells, Pt.slots] at X8 l8 y8 z8 st8 hQ8
  have X8 := own_to X8 l8 y8 z8
  obtain ⟨rfl, N8q, e8⟩ := hQ8
  have N8 := Fr.app N0 N8q
  obtain ⟨fs, hr, hrun, hended, hW, hsame⟩ := X8.leave (v := (some (.int (0 : Int32)))) (fun h => by rw [Bd.returns] at h; cases h)
  refine ⟨_, _, pre0 _ ?_, hrun, hended, _, _, rfl, ?_, ⟨_, rfl⟩, hW, hsame.mono (by decide) (by decide)⟩
  · refine XS.aloadN X0.here hx rfl (hb hby d_jdk_42_method_66_0) rfl rfl ?_
    refine XS.aloadN X0.here hx rfl (hb hby d_jdk_42_method_66_1) rfl rfl ?_
    refine Jvm.RoadKit.acmp (g := (mkF m 2 #[.val (.ref a1), .val (.ref a2), .unset] [(.ref a2), (.ref a1)])) X0 hx rfl rfl rfl (pc0 := 2) (pc' := 7) (same := false) rfl (hb hby d_jdk_42_method_66_2) rfl (decide_eq_false fun q => hy0 (Value.ref.inj q)) (by decide) (by decide) ?_
    refine XS.aloadN X0.here hx rfl (hb hby d_jdk_42_method_66_7) rfl rfl ?_
    refine st1 _ ?_
    refine XS.ifNo X1.here hx rfl (hb hby d_jdk_42_method_66_11) rfl ((if0 _ _).trans (feq (by decide : ¬ ((1 : Int32) = (0 : Int32)))).1) ?_
    refine XS.aloadN X1.here hx rfl (hb hby d_jdk_42_method_66_14) rfl rfl ?_
    refine st2 _ ?_
    refine XS.astoreN X2.here hx rfl (hb hby d_jdk_42_method_66_18) rfl rfl (l' := #[.val (.ref a1), .val (.ref a2), .val (.ref a2)]) rfl ?_
    refine st3 _ ?_
    refine XS.ifNo X3.here hx rfl (hb hby d_jdk_42_method_66_22) rfl ((if0 _ _).trans (feq hS.2.1).1) ?_
    refine XS.aloadN X3.here hx rfl (hb hby d_jdk_42_method_66_25) rfl rfl ?_
    refine st4 _ ?_
    refine XS.aloadN X4.here hx rfl (hb hby d_jdk_42_method_66_29) rfl rfl ?_
    refine st5 _ ?_
    refine XS.icmpNo X5.here hx rfl (hb hby d_jdk_42_method_66_33) rfl (teq (by decide : (0 : Int32) = (0 : Int32))).2 ?_
    refine XS.aloadN X5.here hx rfl (hb hby d_jdk_42_method_66_36) rfl rfl ?_
    refine st6 _ ?_
    refine XS.aloadN X6.here hx rfl (hb hby d_jdk_42_method_66_40) rfl rfl ?_
    refine st7 _ ?_
    refine st8 _ ?_
    refine XS.ifYes X8.here hx rfl (pc0 := 47) (pc' := 54) rfl (hb hby d_jdk_42_method_66_47) rfl ((if0 _ _).trans (teq (by decide : (0 : Int32) = (0 : Int32))).1) (by decide) (by decide) ?_
    refine XS.iconst X8.here hx rfl (hb hby d_jdk_42_method_66_54) ?_
    exact retN X8 hx (t := .boolean) Bd.returns (by simp) (hb hby d_jdk_42_method_66_55) hr
  · show Q_rc61_equals Z a1 a2 a3 a4 k5 i6 i7 k8 h0 n0 _ T8.heap _
    rw [e8]
    exact ⟨rfl, N8, rfl⟩
def Q_rc60_traceAsked (Z : State) (a1 : Addr) (a2 : Addr) (k3 : ClassId) (i4 : Int32) (i5 : Int32) (h0 : Heap) (n0 : Nat) (v : Option Value) (h : Heap) (L : List Loc) : Prop := v = some (.int (1 : Int32)) ∧ Fr n0 L ∧ Keep h0 h []
set_option maxRecDepth 65536 in
set_option maxHeartbeats 40000000 in
theorem rc60_traceAsked (l : Launch) (Z : State) (a0 : Array Value) (hw : ∀ d ∈ tables_1, d.before a0 Z = true) (ws : List Jvm.Cond) (cs : Int32) (hS : SB Z cs) (a1 : Addr) (a2 : Addr) (k3 : ClassId) (i4 : Int32) (i5 : Int32) (h0 : Heap) (n0 : Nat) (O0 : Old Z n0 h0) (g_a1 : n0 ≤ a1) (g_a2 : n0 ≤ a2) (E_a1 : Exa Z h0 a1 nString_0) (F_a1_coder : Fld Z h0 a1 nString_0 "coder" "B" (.int (0 : Int32))) (F_a1_value : Fld Z h0 a1 nString_0 "value" "[B" (.ref a2)) (V_a2 : Arv Z h0 a2 k3 .byte (2 : Int32) [(.int i4), (.int i5)] (.int (0 : Int32))) :
    MetH l my_0 prog_17_method_2_code 1 (some .boolean) ws ({ frames := 2, cells := 2, slots := 8, locals := 28 } : Room) #[(.ref a1)] Z h0 [a1] (Q_rc60_traceAsked Z a1 a2 k3 i4 i5 h0 n0) := by
  refine MetFree.of_bodySF (plainFor_of_name pn_0) hisR ?_
  intro p e s m args below meth c s₁ Bd hml0 hP hK
  obtain ⟨rfl, hZ, hh, hCH⟩ := hP
  have hx := Bd.exec
  have hby := Bd.bytes
  have hml : c.maxLocals = 1 := hml0
  have hown : s.vm.findClass nUnfore_2 = some m.cls := findClass_of_methodNamed Bd.named
  have hnm := (name_of_methodNamed Bd.named Bd.method).1
  have X0 : Stand p l e ({ frames := 2, cells := 2, slots := 8, locals := 28 } : Room) (s.setVm s.vm) m #[(.ref a1)] below meth c s₁ [] 0 0 := Stand.of_body Bd
  have e0 : s₁.heap = h0 := by rw [← hh, Bd.state]; rfl
  have N0 := Fr.nil n0
  obtain ⟨f₀, hf₀⟩ : ∃ f, f = entryFrame m #[(.ref a1)] 1 := ⟨_, rfl⟩
  rw [← hf₀]
  have pre0 : Go p e below s₁ f₀ s₁ (mkF m 0 #[.val (.ref a1)] []) := fun t k => castTop (hf₀.trans (ef_rc60_traceAsked m (a1))) k
  have hZ0 : Z.Warmed39 (s.setVm s.vm).vm := hZ
  have hown0 : (s.setVm s.vm).vm.findClass nUnfore_2 = some m.cls := hown
  have hS0 : s.Since s.vm s.heap.size := (State.WarmedH.refl s).since _
  have hk0 : s.heap.size ≤ h0.size := by rw [hh]; exact Nat.le_refl _
  obtain ⟨cq1, kq1, q1a, q1b, q1c⟩ := isOf hZ0 e0 (E_a1)
  obtain ⟨_, _, ⟨T1, L1, k1, n1⟩, -, X1, ⟨Lc1, hQ1, l1, y1, z1⟩, st1⟩ := X0.virtualBack hx (y := my_4) (z := my_4) hown0 (mvT hZ0 (wq hw 31 rfl)) (mvT hZ0 (wq hw 32 rfl)) (notFace_of_selects (args := #[]) (mvT hZ0 (wq hw 34 rfl))) (mvT hZ0 (wq hw 34 rfl)) (mvT hZ0 (wq hw 33 rfl)) (by decide) (backOf (W := 0) (rc19_isEmpty l Z a0 hw [] cs hS a1 a2 k3 i4 i5 h0 n0 O0 g_a1 g_a2 F_a1_value V_a2) hZ0 (wq hw 35 rfl) (wq hw 7 rfl) (by decide) (by decide)) q1a q1c (g := (mkF m 5 #[.val (.ref a1)] [(.ref a1)])) rfl (by rw [hml]; rfl) (Steps.refl _) (argsL := []) (rest := []) (lenOf pd_4 rfl) rfl (by show 2 * 0 + _ ≤ _; exact Nat.le_of_eq rfl) (hb hby d_prog_17_method_2_5) (fun _ _ => ⟨rfl, e0, (by decide : 0 + 0 ≤ _), (by decide : 0 + 0 ≤ _)⟩)
  dsimp only [Pt.U, Pt.locs, Pt.cells, Pt.slots] at X1 l1 y1 z1 st1 hQ1
  have X1 := own_to X1 l1 y1 z1
  obtain ⟨rfl, N1q, e1⟩ := hQ1
  have N1 := Fr.app N0 N1q
  obtain ⟨sa2, T2, h2, k2, sb2, kc2, X2, e2, E2, hS2, hk2, hZ2, hown2, A2, Fc2, Fv2, Va2, la2, lb2, Cr2, Lt2, hne2, st2⟩ := ldcCH X1 hx hZ0 hown0 (wq hw 47 rfl) (own_wS hw) e1 hS0 hk0 (own_EL hw) (List.mem_of_getElem? (i := 0) rfl) hCH.1 (vs := [(.int (48 : Int32))]) (z := (1 : Int32)) ⟨by decide, rfl⟩ (by decide) rfl (g := (mkF m 12 #[.val (.ref a1)] [(.ref a1)])) rfl (hb hby d_prog_17_method_2_12) (n := 4) (by decide) (by decide) (by decide) (by decide)
  have O3 : Old Z n0 h2 := Old.ext O0 E2
  have K4 : Keep h0 h2 [] := (Keep.refl h0 []).ext E2
  have hk5 := Nat.le_trans hk0 E2.1
  have nn6 := hne2 a1 (Cr2.safe (hCH.2 a1 (List.mem_of_getElem? (i := 0) rfl)).1 (hCH.2 a1 (List.mem_of_getElem? (i := 0) rfl)).2)
  have t7 : Exa Z h2 a1 nString_0 := (E_a1.ext E2)
  have t8 : Fld Z h2 a1 nString_0 "coder" "B" (.int (0 : Int32)) := (F_a1_coder.ext E2)
  have t9 : Fld Z h2 a1 nString_0 "value" "[B" (.ref a2) := (F_a1_value.ext E2)
  have t10 : Arv Z h2 a2 k3 .byte (2 : Int32) [(.int i4), (.int i5)] (.int (0 : Int32)) := (V_a2.ext E2)
  obtain ⟨cq11, kq11, q11a, q11b, q11c⟩ := isOf hZ2 e2 (t7)
  obtain ⟨_, _, ⟨T11, L11, k11, n11⟩, -, X11, ⟨Lc11, hQ11, l11, y11, z11⟩, st11⟩ := X2.virtualBack hx (y := my_13) (z := my_13) hown2 (mvT hZ2 (wq hw 48 rfl)) (mvT hZ2 (wq hw 49 rfl)) (notFace_of_selects (args := #[]) (mvT hZ2 (wq hw 51 rfl))) (mvT hZ2 (wq hw 51 rfl)) (mvT hZ2 (wq hw 50 rfl)) (by decide) (backOf (W := 0) (rc61_equals l Z a0 hw [] cs hS a1 sa2 a2 sb2 k3 i4 i5 kc2 h2 n0 O3 g_a1 g_a2 t8 t9 A2 Fc2 Fv2 t10 Va2 nn6.1) hZ2 (wq hw 52 rfl) (wq hw 7 rfl) (by decide) (by decide)) q11a q11c (g := (mkF m 14 #[.val (.ref a1)] [(.ref sa2), (.ref a1)])) rfl (by rw [hml]; rfl) (Steps.refl _) (argsL := [(.ref sa2)]) (rest := []) (lenOf pd_12 rfl) rfl (by show 2 * 0 + _ ≤ _; exact Nat.le_of_eq rfl) (hb hby d_prog_17_method_2_14) (fun _ _ => ⟨rfl, e2, (by decide : 2 + 0 ≤ _), (by decide : 8 + 0 ≤ _)⟩)
  dsimp only [Pt.U, Pt.locs, Pt.cells, Pt.slots] at X11 l11 y11 z11 st11 hQ11
  have X11 := own_to X11 l11 y11 z11
  obtain ⟨rfl, N11q, e11⟩ := hQ11
  have N11 := Fr.app N1 N11q
  obtain ⟨fs, hr, hrun, hended, hEW⟩ := Jvm.Stand.leaveW X11 hS2 (by rw [e11]; exact hk2) (v := (some (.int (1 : Int32)))) (fun h => by rw [Bd.returns] at h; cases h)
  refine ⟨_, _, pre0 _ ?_, hrun, hended, _, _, rfl, ?_, ⟨_, rfl⟩, hEW.2.1, hEW.2.2.1, hEW.2.2.2.mono (by decide) (by decide)⟩
  · refine XS.aloadN X0.here hx rfl (hb hby d_prog_17_method_2_0) rfl rfl ?_
    refine XS.ifnullNo X0.here hx rfl (hb hby d_prog_17_method_2_1) rfl ?_
    refine XS.aloadN X0.here hx rfl (hb hby d_prog_17_method_2_4) rfl rfl ?_
    refine st1.trans ?_
    refine XS.ifNo X1.here hx rfl (hb hby d_prog_17_method_2_8) rfl ((if0 _ _).trans (teq (by decide : (0 : Int32) = (0 : Int32))).2) ?_
    refine XS.aloadN X1.here hx rfl (hb hby d_prog_17_method_2_11) rfl rfl ?_
    refine st2 _ ?_
    refine st11.trans ?_
    refine XS.ifNo X11.here hx rfl (hb hby d_prog_17_method_2_17) rfl ((if0 _ _).trans (teq (by decide : (0 : Int32) = (0 : Int32))).2) ?_
    refine XS.iconst X11.here hx rfl (hb hby d_prog_17_method_2_20) ?_
    refine XS.goto X11.here hx rfl (pc0 := 21) (pc' := 25) rfl (hb hby d_prog_17_method_2_21) (by decide) (by decide) ?_
    exact retN X11 hx (t := .boolean) Bd.returns (by simp) (hb hby d_prog_17_method_2_25) hr
  · show Q_rc60_traceAsked Z a1 a2 k3 i4 i5 h0 n0 _ T11.heap _
    rw [e11]
    exact ⟨rfl, N11, K4⟩
def Q_rc67_compress (Z : State) (a1 : Addr) (a2 : Addr) (k3 : ClassId) (i4 : Int32) (i5 : Int32) (i6 : Int32) (h0 : Heap) (n0 : Nat) (v : Option Value) (h : Heap) (L : List Loc) : Prop := v = some (.int (0 : Int32)) ∧ Fr n0 L ∧ h = h0
set_option maxRecDepth 65536 in
set_option maxHeartbeats 40000000 in
theorem rc67_compress (l : Launch) (Z : State) (a0 : Array Value) (hw : ∀ d ∈ tables_1, d.before a0 Z = true) (ws : List Jvm.Cond) (cs : Int32) (hS : SB Z cs) (a1 : Addr) (a2 : Addr) (k3 : ClassId) (i4 : Int32) (i5 : Int32) (i6 : Int32) (h0 : Heap) (n0 : Nat) (O0 : Old Z n0 h0) (g_a1 : n0 ≤ a1) (g_a2 : n0 ≤ a2) (V_a1 : Arv Z h0 a1 k3 .char (3 : Int32) [(.int i4), (.int i5), (.int i6)] (.int (0 : Int32))) (hy3 : (255 : Int32) < i4) :
    Met l my_5 jdk_52_method_21_code 7 (some .int) ws ({ frames := 0, cells := 0, slots := 0, locals := 0 } : Room) #[(.ref a1), (.int (0 : Int32)), (.ref a2), (.int (0 : Int32)), (.int (3 : Int32))] Z h0 (Q_rc67_compress Z a1 a2 k3 i4 i5 i6 h0 n0) := by
  refine MetFree.of_bodySF (plainFor_of_name pn_3) hisR ?_
  intro p e s m args below meth c s₁ Bd hml0 hP hK
  obtain ⟨rfl, hZ, hh⟩ := hP
  have hx := Bd.exec
  have hby := Bd.bytes
  have hml : c.maxLocals = 7 := hml0
  have hown : s.vm.findClass nString_1 = some m.cls := findClass_of_methodNamed Bd.named
  have hnm := (name_of_methodNamed Bd.named Bd.method).1
  have X0 : Stand p l e ({ frames := 0, cells := 0, slots := 0, locals := 0 } : Room) s m #[(.ref a1), (.int (0 : Int32)), (.ref a2), (.int (0 : Int32)), (.int (3 : Int32))] below meth c s₁ [] 0 0 := Stand.of_body Bd
  have e0 : s₁.heap = h0 := by rw [← hh, Bd.state]; rfl
  have N0 := Fr.nil n0
  obtain ⟨f₀, hf₀⟩ : ∃ f, f = entryFrame m #[(.ref a1), (.int (0 : Int32)), (.ref a2), (.int (0 : Int32)), (.int (3 : Int32))] 7 := ⟨_, rfl⟩
  rw [← hf₀]
  have pre0 : Go p e below s₁ f₀ s₁ (mkF m 0 #[.val (.ref a1), .val (.int (0 : Int32)), .val (.ref a2), .val (.int (0 : Int32)), .val (.int (3 : Int32)), .unset, .unset] []) := fun t k => castTop (hf₀.trans (ef_rc67_compress m (a1) ((0 : Int32)) (a2) ((0 : Int32)) ((3 : Int32)))) k
  obtain ⟨c1, Ar1, q1, S1, M1, Hh1, G1⟩ := (id V_a1)
  have hin1 : ¬ ((0 : Int32) < 0 ∨ c1.slots.size ≤ ((0 : Int32)).toNatClampNeg) := inb_of S1 ⟨by decide, by decide⟩
  have hat1 : c1.slots[((0 : Int32)).toNatClampNeg]? = some (.int i4) := Hh1.at hin1 rfl
  obtain ⟨fs, hr, hrun, hended, hW, hsame⟩ := X0.leave (v := (some (.int (0 : Int32)))) (fun h => by rw [Bd.returns] at h; cases h)
  refine ⟨_, _, pre0 _ ?_, hrun, hended, _, _, rfl, ?_, ⟨_, rfl⟩, hW, hsame.mono (by decide) (by decide)⟩
  · refine XS.iconst X0.here hx rfl (hb hby d_jdk_52_method_21_0) ?_
    refine XS.istore X0.here hx rfl (hb hby d_jdk_52_method_21_1) rfl (l' := #[.val (.ref a1), .val (.int (0 : Int32)), .val (.ref a2), .val (.int (0 : Int32)), .val (.int (3 : Int32)), .val (.int (0 : Int32)), .unset]) rfl ?_
    refine XS.iload X0.here hx rfl (hb hby d_jdk_52_method_21_3) rfl ?_
    refine XS.iload X0.here hx rfl (hb hby d_jdk_52_method_21_5) rfl ?_
    refine XS.icmpNo X0.here hx rfl (hb hby d_jdk_52_method_21_7) rfl (tlt (by decide : (0 : Int32) < (3 : Int32))).2.1 ?_
    refine XS.aloadN X0.here hx rfl (hb hby d_jdk_52_method_21_10) rfl rfl ?_
    refine XS.iloadN X0.here hx rfl (hb hby d_jdk_52_method_21_11) rfl ?_
    refine X0.caload hx (j := (0 : Int32)) (v := (.int i4)) (by rw [e0]; exact Ar1.1) (State.isArrayOf_alike hZ.alike Ar1.2.1) Ar1.2.2 hin1 hat1 (g := (mkF m 12 #[.val (.ref a1), .val (.int (0 : Int32)), .val (.ref a2), .val (.int (0 : Int32)), .val (.int (3 : Int32)), .val (.int (0 : Int32)), .unset] [(.int (0 : Int32)), (.ref a1)])) rfl rfl (hb hby d_jdk_52_method_21_12) _ ?_
    refine XS.istore X0.here hx rfl (hb hby d_jdk_52_method_21_13) rfl (l' := #[.val (.ref a1), .val (.int (0 : Int32)), .val (.ref a2), .val (.int (0 : Int32)), .val (.int (3 : Int32)), .val (.int (0 : Int32)), .val (.int i4)]) rfl ?_
    refine XS.iload X0.here hx rfl (hb hby d_jdk_52_method_21_15) rfl ?_
    refine XS.sipush X0.here hx rfl (hb hby d_jdk_52_method_21_17) ?_
    refine XS.icmpNo X0.here hx rfl (hb hby d_jdk_52_method_21_20) rfl (tlt hy3).2.2.2 ?_
    refine XS.iload X0.here hx rfl (hb hby d_jdk_52_method_21_23) rfl ?_
    exact retI X0 hx Bd.returns (hb hby d_jdk_52_method_21_25) hr
  · show Q_rc67_compress Z a1 a2 k3 i4 i5 i6 h0 n0 _ s₁.heap _
    rw [e0]
    exact ⟨rfl, N0, rfl⟩
def Q_rc70_newBytesLength (Z : State)  (h0 : Heap) (n0 : Nat) (v : Option Value) (h : Heap) (L : List Loc) : Prop := v = some (.int (6 : Int32)) ∧ Fr n0 L ∧ h = h0
set_option maxRecDepth 65536 in
set_option maxHeartbeats 40000000 in
theorem rc70_newBytesLength (l : Launch) (Z : State) (a0 : Array Value) (hw : ∀ d ∈ tables_1, d.before a0 Z = true) (ws : List Jvm.Cond) (cs : Int32) (hS : SB Z cs)  (h0 : Heap) (n0 : Nat) (O0 : Old Z n0 h0)  :
    Met l my_6 jdk_52_method_3_code 1 (some .int) ws ({ frames := 0, cells := 0, slots := 0, locals := 0 } : Room) #[(.int (3 : Int32))] Z h0 (Q_rc70_newBytesLength Z h0 n0) := by
  refine MetFree.of_bodySF (plainFor_of_name pn_3) hisR ?_
  intro p e s m args below meth c s₁ Bd hml0 hP hK
  obtain ⟨rfl, hZ, hh⟩ := hP
  have hx := Bd.exec
  have hby := Bd.bytes
  have hml : c.maxLocals = 1 := hml0
  have hown : s.vm.findClass nString_1 = some m.cls := findClass_of_methodNamed Bd.named
  have hnm := (name_of_methodNamed Bd.named Bd.method).1
  have X0 : Stand p l e ({ frames := 0, cells := 0, slots := 0, locals := 0 } : Room) s m #[(.int (3 : Int32))] below meth c s₁ [] 0 0 := Stand.of_body Bd
  have e0 : s₁.heap = h0 := by rw [← hh, Bd.state]; rfl
  have N0 := Fr.nil n0
  obtain ⟨f₀, hf₀⟩ : ∃ f, f = entryFrame m #[(.int (3 : Int32))] 1 := ⟨_, rfl⟩
  rw [← hf₀]
  have pre0 : Go p e below s₁ f₀ s₁ (mkF m 0 #[.val (.int (3 : Int32))] []) := fun t k => castTop (hf₀.trans (ef_rc70_newBytesLength m ((3 : Int32)))) k
  obtain ⟨fs, hr, hrun, hended, hW, hsame⟩ := X0.leave (v := (some (.int (6 : Int32)))) (fun h => by rw [Bd.returns] at h; cases h)
  refine ⟨_, _, pre0 _ ?_, hrun, hended, _, _, rfl, ?_, ⟨_, rfl⟩, hW, hsame.mono (by decide) (by decide)⟩
  · refine XS.iloadN X0.here hx rfl (hb hby d_jdk_52_method_3_0) rfl ?_
    refine XS.ifYes X0.here hx rfl (pc0 := 1) (pc' := 12) rfl (hb hby d_jdk_52_method_3_1) rfl ((if0 _ _).trans (flt (by decide : ¬ ((3 : Int32) < (0 : Int32)))).2.1) (by decide) (by decide) ?_
    refine XS.iloadN X0.here hx rfl (hb hby d_jdk_52_method_3_12) rfl ?_
    refine X0.ldcInt hx hown (mvT hZ (wq hw 67 rfl)) (g := (mkF m 13 #[.val (.int (3 : Int32))] [(.int (3 : Int32))])) rfl (hb hby d_jdk_52_method_3_13) _ ?_
    refine XS.icmpYes X0.here hx rfl (pc0 := 15) (pc' := 55) rfl (hb hby d_jdk_52_method_3_15) rfl (tlt (by decide : (3 : Int32) < (1073741823 : Int32))).1 (by decide) (by decide) ?_
    refine XS.iloadN X0.here hx rfl (hb hby d_jdk_52_method_3_55) rfl ?_
    refine XS.iconst X0.here hx rfl (hb hby d_jdk_52_method_3_56) ?_
    refine XS.ishl X0.here hx rfl (hb hby d_jdk_52_method_3_57) rfl ?_
    show Steps p.tables e below (s₁.setTop (mkF m 58 #[.val (.int (3 : Int32))] [(.int (6 : Int32))])) _
    exact retI X0 hx Bd.returns (hb hby d_jdk_52_method_3_58) hr
  · show Q_rc70_newBytesLength Z h0 n0 _ s₁.heap _
    rw [e0]
    exact ⟨rfl, N0, rfl⟩
def Q_rc69_newBytesFor (Z : State)  (h0 : Heap) (n0 : Nat) (v : Option Value) (h : Heap) (L : List Loc) : Prop := ∃ (b2 : Addr), ∃ (k2 : ClassId), v = some (.ref b2) ∧ Fr n0 L ∧ Keep h0 h [] ∧ h0.size ≤ b2 ∧ Arv Z h b2 k2 .byte (6 : Int32) [(.int (0 : Int32)), (.int (0 : Int32)), (.int (0 : Int32)), (.int (0 : Int32)), (.int (0 : Int32)), (.int (0 : Int32))] (.int (0 : Int32))
set_option maxRecDepth 65536 in
set_option maxHeartbeats 40000000 in
theorem rc69_newBytesFor (l : Launch) (Z : State) (a0 : Array Value) (hw : ∀ d ∈ tables_1, d.before a0 Z = true) (ws : List Jvm.Cond) (cs : Int32) (hS : SB Z cs)  (h0 : Heap) (n0 : Nat) (O0 : Old Z n0 h0)  :
    Met l my_7 jdk_52_method_2_code 1 (some (.array .byte)) ws ({ frames := 1, cells := 1, slots := 6, locals := 12 } : Room) #[(.int (3 : Int32))] Z h0 (Q_rc69_newBytesFor Z h0 n0) := by
  refine MetFree.of_bodySF (plainFor_of_name pn_3) hisR ?_
  intro p e s m args below meth c s₁ Bd hml0 hP hK
  obtain ⟨rfl, hZ, hh⟩ := hP
  have hx := Bd.exec
  have hby := Bd.bytes
  have hml : c.maxLocals = 1 := hml0
  have hown : s.vm.findClass nString_1 = some m.cls := findClass_of_methodNamed Bd.named
  have hnm := (name_of_methodNamed Bd.named Bd.method).1
  have X0 : Stand p l e ({ frames := 1, cells := 1, slots := 6, locals := 12 } : Room) s m #[(.int (3 : Int32))] below meth c s₁ [] 0 0 := Stand.of_body Bd
  have e0 : s₁.heap = h0 := by rw [← hh, Bd.state]; rfl
  have N0 := Fr.nil n0
  obtain ⟨f₀, hf₀⟩ : ∃ f, f = entryFrame m #[(.int (3 : Int32))] 1 := ⟨_, rfl⟩
  rw [← hf₀]
  have pre0 : Go p e below s₁ f₀ s₁ (mkF m 0 #[.val (.int (3 : Int32))] []) := fun t k => castTop (hf₀.trans (ef_rc69_newBytesFor m ((3 : Int32)))) k
  obtain ⟨_, _, ⟨T1, L1, k1, n1⟩, -, X1, ⟨Lc1, hQ1, l1, y1, z1⟩, st1⟩ := Jvm.LawKit.callS X0 hx (y := my_6) hown (mvT hZ (wq hw 64 rfl)) (mvT hZ (wq hw 65 rfl)) (mvT hZ (wq hw 39 rfl)) (mvT hZ (wq hw 66 rfl)) (by decide) (backOf (W := 0) (rc70_newBytesLength l Z a0 hw [] cs hS  h0 n0 O0 ) hZ (wq hw 66 rfl) (wq hw 39 rfl) (by decide) (by decide)) (g := (mkF m 1 #[.val (.int (3 : Int32))] [(.int (3 : Int32))])) rfl (by rw [hml]; rfl) (argsL := [(.int (3 : Int32))]) (rest := []) (lenOf pd_6 rfl) rfl (by show 2 * 0 + _ ≤ _; exact Nat.le_of_eq rfl) (hb hby d_jdk_52_method_2_1) (fun _ _ => ⟨rfl, e0, (by decide : 0 + 0 ≤ _), (by decide : 0 + 0 ≤ _)⟩)
  dsimp only [Pt.U, Pt.locs, Pt.cells, Pt.slots] at X1 l1 y1 z1 st1 hQ1
  have X1 := own_to X1 l1 y1 z1
  obtain ⟨rfl, N1q, e1⟩ := hQ1
  have N1 := Fr.app N0 N1q
  obtain ⟨T2, h2, k2, X2, e2, E2, A2, st2⟩ := newP X1 hx hZ (wq hw 20 rfl) e1 (g := (mkF m 4 #[.val (.int (3 : Int32))] [(.int (6 : Int32))])) rfl (hb hby d_jdk_52_method_2_4) rfl (by decide) (cap := 6) (by decide) (by decide) (by decide) (by decide)
  obtain ⟨b2, gb2⟩ : ∃ z, z = h0.size := ⟨_, rfl⟩
  rw [← gb2] at A2 st2
  have g3 : n0 ≤ b2 := Nat.le_trans (Nat.le_of_eq O0.1.symm) (Nat.le_trans O0.2.1 (Nat.le_of_eq gb2.symm))
  have s4 : h0.size ≤ b2 := Nat.le_trans (Keep.refl h0 []).1 (Nat.le_of_eq gb2.symm)
  have O5 : Old Z n0 h2 := Old.ext O0 E2
  have K6 : Keep h0 h2 [] := (Keep.refl h0 []).ext E2
  have v7 : Arv Z h2 b2 k2 .byte (6 : Int32) [(.int (0 : Int32)), (.int (0 : Int32)), (.int (0 : Int32)), (.int (0 : Int32)), (.int (0 : Int32)), (.int (0 : Int32))] (.int (0 : Int32)) := (Arv.new A2 (by decide)).pad (pad_rep [] (.int (0 : Int32)) 6)
  obtain ⟨fs, hr, hrun, hended, hW, hsame⟩ := X2.leave (v := (some (.ref b2))) (fun h => by rw [Bd.returns] at h; cases h)
  refine ⟨_, _, pre0 _ ?_, hrun, hended, _, _, rfl, ?_, ⟨_, rfl⟩, hW, hsame.mono (by decide) (by decide)⟩
  · refine XS.iloadN X0.here hx rfl (hb hby d_jdk_52_method_2_0) rfl ?_
    refine st1 _ ?_
    refine st2 _ ?_
    exact retOut X2 hx Bd.returns rfl (Or.inr (Or.inr (Or.inr (Or.inr ⟨rfl, rfl, rfl⟩)))) (hb hby d_jdk_52_method_2_6) hr
  · show Q_rc69_newBytesFor Z h0 n0 _ T2.heap _
    rw [e2]
    exact ⟨b2, k2, rfl, N1, K6, s4, v7⟩
def Q_rc71_putChar (Z : State) (a1 : Addr) (i2 : Int32) (k3 : ClassId) (h0 : Heap) (n0 : Nat) (v : Option Value) (h : Heap) (L : List Loc) : Prop := v = none ∧ Fr n0 L ∧ Keep h0 h [a1] ∧ Arv Z h a1 k3 .byte (6 : Int32) [(.int (nar .byte ((i2 >>> ((0 : Int32) &&& 31)).toInt8.toInt32))), (.int (nar .byte ((i2 >>> ((8 : Int32) &&& 31)).toInt8.toInt32))), (.int (0 : Int32)), (.int (0 : Int32)), (.int (0 : Int32)), (.int (0 : Int32))] (.int (0 : Int32))
set_option maxRecDepth 65536 in
set_option maxHeartbeats 40000000 in
theorem rc71_putChar (l : Launch) (Z : State) (a0 : Array Value) (hw : ∀ d ∈ tables_1, d.before a0 Z = true) (ws : List Jvm.Cond) (cs : Int32) (hS : SB Z cs) (a1 : Addr) (i2 : Int32) (k3 : ClassId) (h0 : Heap) (n0 : Nat) (O0 : Old Z n0 h0) (g_a1 : n0 ≤ a1) (V_a1 : Arv Z h0 a1 k3 .byte (6 : Int32) [(.int (0 : Int32)), (.int (0 : Int32)), (.int (0 : Int32)), (.int (0 : Int32)), (.int (0 : Int32)), (.int (0 : Int32))] (.int (0 : Int32))) :
    Met l my_8 jdk_52_method_4_code 3 none ws ({ frames := 0, cells := 0, slots := 0, locals := 0 } : Room) #[(.ref a1), (.int (0 : Int32)), (.int i2)] Z h0 (Q_rc71_putChar Z a1 i2 k3 h0 n0) := by
  refine MetFree.of_bodySF (plainFor_of_name pn_3) hisR ?_
  intro p e s m args below meth c s₁ Bd hml0 hP hK
  obtain ⟨rfl, hZ, hh⟩ := hP
  have hx := Bd.exec
  have hby := Bd.bytes
  have hml : c.maxLocals = 3 := hml0
  have hown : s.vm.findClass nString_1 = some m.cls := findClass_of_methodNamed Bd.named
  have hnm := (name_of_methodNamed Bd.named Bd.method).1
  have X0 : Stand p l e ({ frames := 0, cells := 0, slots := 0, locals := 0 } : Room) s m #[(.ref a1), (.int (0 : Int32)), (.int i2)] below meth c s₁ [] 0 0 := Stand.of_body Bd
  have e0 : s₁.heap = h0 := by rw [← hh, Bd.state]; rfl
  have N0 := Fr.nil n0
  obtain ⟨f₀, hf₀⟩ : ∃ f, f = entryFrame m #[(.ref a1), (.int (0 : Int32)), (.int i2)] 3 := ⟨_, rfl⟩
  rw [← hf₀]
  have pre0 : Go p e below s₁ f₀ s₁ (mkF m 0 #[.val (.ref a1), .val (.int (0 : Int32)), .val (.int i2)] []) := fun t k => castTop (hf₀.trans (ef_rc71_putChar m (a1) ((0 : Int32)) (i2))) k
  obtain ⟨T1, X1, e1, st1⟩ := getS2 X0 hx hZ hown (host := "") (Or.inl (wq hw 71 rfl)) Via.refl e0 (hS.2.2.1.ext O0.2) (g := (mkF m 0 #[.val (.ref a1), .val (.int (0 : Int32)), .val (.int i2)] [])) rfl (hb hby d_jdk_52_method_4_0)
  obtain ⟨T2, X2, e2, st2⟩ := getS2 X1 hx hZ hown (host := "") (Or.inl (wq hw 72 rfl)) Via.refl e1 (hS.2.2.2.1.ext O0.2) (g := (mkF m 38 #[.val (.ref a1), .val (.int (1 : Int32)), .val (.int i2)] [(.int i2), (.int (0 : Int32)), (.ref a1)])) rfl (hb hby d_jdk_52_method_4_38)
  obtain ⟨c3, Ar3, q3, S3, M3, Hh3, G3⟩ := (id V_a1)
  have hin3 : ¬ ((0 : Int32) < 0 ∨ c3.slots.size ≤ ((0 : Int32)).toNatClampNeg) := inb_of S3 ⟨by decide, by decide⟩
  obtain ⟨T4, h4, X4, e4, W4, st4⟩ := stB X2 hx hZ e2 Ar3 (j := (0 : Int32)) hin3 (g := (mkF m 43 #[.val (.ref a1), .val (.int (1 : Int32)), .val (.int i2)] [(.int ((i2 >>> ((0 : Int32) &&& 31)).toInt8.toInt32)), (.int (0 : Int32)), (.ref a1)])) rfl rfl (hb hby d_jdk_52_method_4_43)
  have v5 : Arv Z h4 a1 k3 .byte (6 : Int32) [(.int (nar .byte ((i2 >>> ((0 : Int32) &&& 31)).toInt8.toInt32))), (.int (0 : Int32)), (.int (0 : Int32)), (.int (0 : Int32)), (.int (0 : Int32)), (.int (0 : Int32))] (.int (0 : Int32)) := Arv.set Ar3 q3 S3 M3 Hh3 G3 (fits_nar_byte _) W4 0 rfl (Nat.le_of_ble_eq_true rfl)
  have N4 := Fr.snoc X4 N0 g_a1
  have O6 : Old Z n0 h4 := Old.wr O0 W4 g_a1
  have K7 : Keep h0 h4 [a1] := (Keep.refl h0 [a1]).wr W4 (Or.inl (List.mem_of_getElem? (i := 0) rfl))
  obtain ⟨T8, X8, e8, st8⟩ := getS2 X4 hx hZ hown (host := "") (Or.inl (wq hw 73 rfl)) Via.refl e4 (hS.2.2.2.2.ext O6.2) (g := (mkF m 47 #[.val (.ref a1), .val (.int (1 : Int32)), .val (.int i2)] [(.int i2), (.int (1 : Int32)), (.ref a1)])) rfl (hb hby d_jdk_52_method_4_47)
  obtain ⟨c9, Ar9, q9, S9, M9, Hh9, G9⟩ := (id v5)
  have hin9 : ¬ ((1 : Int32) < 0 ∨ c9.slots.size ≤ ((1 : Int32)).toNatClampNeg) := inb_of S9 ⟨by decide, by decide⟩
  obtain ⟨T10, h10, X10, e10, W10, st10⟩ := stB X8 hx hZ e8 Ar9 (j := (1 : Int32)) hin9 (g := (mkF m 52 #[.val (.ref a1), .val (.int (1 : Int32)), .val (.int i2)] [(.int ((i2 >>> ((8 : Int32) &&& 31)).toInt8.toInt32)), (.int (1 : Int32)), (.ref a1)])) rfl rfl (hb hby d_jdk_52_method_4_52)
  have v11 : Arv Z h10 a1 k3 .byte (6 : Int32) [(.int (nar .byte ((i2 >>> ((0 : Int32) &&& 31)).toInt8.toInt32))), (.int (nar .byte ((i2 >>> ((8 : Int32) &&& 31)).toInt8.toInt32))), (.int (0 : Int32)), (.int (0 : Int32)), (.int (0 : Int32)), (.int (0 : Int32))] (.int (0 : Int32)) := Arv.set Ar9 q9 S9 M9 Hh9 G9 (fits_nar_byte _) W10 1 rfl (Nat.le_of_ble_eq_true rfl)
  have N10 := Fr.snoc X10 N4 g_a1
  have O12 : Old Z n0 h10 := Old.wr O6 W10 g_a1
  have K13 : Keep h0 h10 [a1] := K7.wr W10 (Or.inl (List.mem_of_getElem? (i := 0) rfl))
  obtain ⟨fs, hr, hrun, hended, hW, hsame⟩ := X10.leave (v := none) (fun _ => rfl)
  refine ⟨_, _, pre0 _ ?_, hrun, hended, _, _, rfl, ?_, ⟨_, rfl⟩, hW, hsame.mono (by decide) (by decide)⟩
  · refine st1 _ ?_
    refine XS.ifYes X1.here hx rfl (pc0 := 3) (pc' := 28) rfl (hb hby d_jdk_52_method_4_3) rfl ((if0 _ _).trans (feq (by decide : ¬ ((1 : Int32) = (0 : Int32)))).2) (by decide) (by decide) ?_
    refine XS.iloadN X1.here hx rfl (hb hby d_jdk_52_method_4_28) rfl ?_
    refine XS.iconst X1.here hx rfl (hb hby d_jdk_52_method_4_29) ?_
    refine XS.ishl X1.here hx rfl (hb hby d_jdk_52_method_4_30) rfl ?_
    show Steps p.tables e below (T1.setTop (mkF m 31 #[.val (.ref a1), .val (.int (0 : Int32)), .val (.int i2)] [(.int (0 : Int32))])) _
    refine XS.istoreN X1.here hx rfl (hb hby d_jdk_52_method_4_31) rfl (l' := #[.val (.ref a1), .val (.int (0 : Int32)), .val (.int i2)]) rfl ?_
    refine XS.aloadN X1.here hx rfl (hb hby d_jdk_52_method_4_32) rfl rfl ?_
    refine XS.iloadN X1.here hx rfl (hb hby d_jdk_52_method_4_33) rfl ?_
    refine XS.iinc X1.here hx rfl (hb hby d_jdk_52_method_4_34) rfl (l' := #[.val (.ref a1), .val (.int (1 : Int32)), .val (.int i2)]) rfl ?_
    refine XS.iloadN X1.here hx rfl (hb hby d_jdk_52_method_4_37) rfl ?_
    refine st2 _ ?_
    refine XS.ishr X2.here hx rfl (hb hby d_jdk_52_method_4_41) rfl ?_
    refine XS.i2b X2.here hx rfl (hb hby d_jdk_52_method_4_42) rfl ?_
    refine st4 _ ?_
    refine XS.aloadN X4.here hx rfl (hb hby d_jdk_52_method_4_44) rfl rfl ?_
    refine XS.iloadN X4.here hx rfl (hb hby d_jdk_52_method_4_45) rfl ?_
    refine XS.iloadN X4.here hx rfl (hb hby d_jdk_52_method_4_46) rfl ?_
    refine st8 _ ?_
    refine XS.ishr X8.here hx rfl (hb hby d_jdk_52_method_4_50) rfl ?_
    refine XS.i2b X8.here hx rfl (hb hby d_jdk_52_method_4_51) rfl ?_
    refine st10 _ ?_
    exact X10.returnOut hx Bd.returns (hb hby d_jdk_52_method_4_53) hr
  · show Q_rc71_putChar Z a1 i2 k3 h0 n0 _ T10.heap _
    rw [e10]
    exact ⟨rfl, N10, K13, v11⟩
def Q_rc72_putChar (Z : State) (a1 : Addr) (i2 : Int32) (k3 : ClassId) (i4 : Int32) (i5 : Int32) (h0 : Heap) (n0 : Nat) (v : Option Value) (h : Heap) (L : List Loc) : Prop := v = none ∧ Fr n0 L ∧ Keep h0 h [a1] ∧ Arv Z h a1 k3 .byte (6 : Int32) [(.int i4), (.int i5), (.int (nar .byte ((i2 >>> ((0 : Int32) &&& 31)).toInt8.toInt32))), (.int (nar .byte ((i2 >>> ((8 : Int32) &&& 31)).toInt8.toInt32))), (.int (0 : Int32)), (.int (0 : Int32))] (.int (0 : Int32))
set_option maxRecDepth 65536 in
set_option maxHeartbeats 40000000 in
theorem rc72_putChar (l : Launch) (Z : State) (a0 : Array Value) (hw : ∀ d ∈ tables_1, d.before a0 Z = true) (ws : List Jvm.Cond) (cs : Int32) (hS : SB Z cs) (a1 : Addr) (i2 : Int32) (k3 : ClassId) (i4 : Int32) (i5 : Int32) (h0 : Heap) (n0 : Nat) (O0 : Old Z n0 h0) (g_a1 : n0 ≤ a1) (V_a1 : Arv Z h0 a1 k3 .byte (6 : Int32) [(.int i4), (.int i5), (.int (0 : Int32)), (.int (0 : Int32)), (.int (0 : Int32)), (.int (0 : Int32))] (.int (0 : Int32))) :
    Met l my_8 jdk_52_method_4_code 3 none ws ({ frames := 0, cells := 0, slots := 0, locals := 0 } : Room) #[(.ref a1), (.int (1 : Int32)), (.int i2)] Z h0 (Q_rc72_putChar Z a1 i2 k3 i4 i5 h0 n0) := by
  refine MetFree.of_bodySF (plainFor_of_name pn_3) hisR ?_
  intro p e s m args below meth c s₁ Bd hml0 hP hK
  obtain ⟨rfl, hZ, hh⟩ := hP
  have hx := Bd.exec
  have hby := Bd.bytes
  have hml : c.maxLocals = 3 := hml0
  have hown : s.vm.findClass nString_1 = some m.cls := findClass_of_methodNamed Bd.named
  have hnm := (name_of_methodNamed Bd.named Bd.method).1
  have X0 : Stand p l e ({ frames := 0, cells := 0, slots := 0, locals := 0 } : Room) s m #[(.ref a1), (.int (1 : Int32)), (.int i2)] below meth c s₁ [] 0 0 := Stand.of_body Bd
  have e0 : s₁.heap = h0 := by rw [← hh, Bd.state]; rfl
  have N0 := Fr.nil n0
  obtain ⟨f₀, hf₀⟩ : ∃ f, f = entryFrame m #[(.ref a1), (.int (1 : Int32)), (.int i2)] 3 := ⟨_, rfl⟩
  rw [← hf₀]
  have pre0 : Go p e below s₁ f₀ s₁ (mkF m 0 #[.val (.ref a1), .val (.int (1 : Int32)), .val (.int i2)] []) := fun t k => castTop (hf₀.trans (ef_rc72_putChar m (a1) ((1 : Int32)) (i2))) k
  obtain ⟨T1, X1, e1, st1⟩ := getS2 X0 hx hZ hown (host := "") (Or.inl (wq hw 71 rfl)) Via.refl e0 (hS.2.2.1.ext O0.2) (g := (mkF m 0 #[.val (.ref a1), .val (.int (1 : Int32)), .val (.int i2)] [])) rfl (hb hby d_jdk_52_method_4_0)
  obtain ⟨T2, X2, e2, st2⟩ := getS2 X1 hx hZ hown (host := "") (Or.inl (wq hw 72 rfl)) Via.refl e1 (hS.2.2.2.1.ext O0.2) (g := (mkF m 38 #[.val (.ref a1), .val (.int (3 : Int32)), .val (.int i2)] [(.int i2), (.int (2 : Int32)), (.ref a1)])) rfl (hb hby d_jdk_52_method_4_38)
  obtain ⟨c3, Ar3, q3, S3, M3, Hh3, G3⟩ := (id V_a1)
  have hin3 : ¬ ((2 : Int32) < 0 ∨ c3.slots.size ≤ ((2 : Int32)).toNatClampNeg) := inb_of S3 ⟨by decide, by decide⟩
  obtain ⟨T4, h4, X4, e4, W4, st4⟩ := stB X2 hx hZ e2 Ar3 (j := (2 : Int32)) hin3 (g := (mkF m 43 #[.val (.ref a1), .val (.int (3 : Int32)), .val (.int i2)] [(.int ((i2 >>> ((0 : Int32) &&& 31)).toInt8.toInt32)), (.int (2 : Int32)), (.ref a1)])) rfl rfl (hb hby d_jdk_52_method_4_43)
  have v5 : Arv Z h4 a1 k3 .byte (6 : Int32) [(.int i4), (.int i5), (.int (nar .byte ((i2 >>> ((0 : Int32) &&& 31)).toInt8.toInt32))), (.int (0 : Int32)), (.int (0 : Int32)), (.int (0 : Int32))] (.int (0 : Int32)) := Arv.set Ar3 q3 S3 M3 Hh3 G3 (fits_nar_byte _) W4 2 rfl (Nat.le_of_ble_eq_true rfl)
  have N4 := Fr.snoc X4 N0 g_a1
  have O6 : Old Z n0 h4 := Old.wr O0 W4 g_a1
  have K7 : Keep h0 h4 [a1] := (Keep.refl h0 [a1]).wr W4 (Or.inl (List.mem_of_getElem? (i := 0) rfl))
  obtain ⟨T8, X8, e8, st8⟩ := getS2 X4 hx hZ hown (host := "") (Or.inl (wq hw 73 rfl)) Via.refl e4 (hS.2.2.2.2.ext O6.2) (g := (mkF m 47 #[.val (.ref a1), .val (.int (3 : Int32)), .val (.int i2)] [(.int i2), (.int (3 : Int32)), (.ref a1)])) rfl (hb hby d_jdk_52_method_4_47)
  obtain ⟨c9, Ar9, q9, S9, M9, Hh9, G9⟩ := (id v5)
  have hin9 : ¬ ((3 : Int32) < 0 ∨ c9.slots.size ≤ ((3 : Int32)).toNatClampNeg) := inb_of S9 ⟨by decide, by decide⟩
  obtain ⟨T10, h10, X10, e10, W10, st10⟩ := stB X8 hx hZ e8 Ar9 (j := (3 : Int32)) hin9 (g := (mkF m 52 #[.val (.ref a1), .val (.int (3 : Int32)), .val (.int i2)] [(.int ((i2 >>> ((8 : Int32) &&& 31)).toInt8.toInt32)), (.int (3 : Int32)), (.ref a1)])) rfl rfl (hb hby d_jdk_52_method_4_52)
  have v11 : Arv Z h10 a1 k3 .byte (6 : Int32) [(.int i4), (.int i5), (.int (nar .byte ((i2 >>> ((0 : Int32) &&& 31)).toInt8.toInt32))), (.int (nar .byte ((i2 >>> ((8 : Int32) &&& 31)).toInt8.toInt32))), (.int (0 : Int32)), (.int (0 : Int32))] (.int (0 : Int32)) := Arv.set Ar9 q9 S9 M9 Hh9 G9 (fits_nar_byte _) W10 3 rfl (Nat.le_of_ble_eq_true rfl)
  have N10 := Fr.snoc X10 N4 g_a1
  have O12 : Old Z n0 h10 := Old.wr O6 W10 g_a1
  have K13 : Keep h0 h10 [a1] := K7.wr W10 (Or.inl (List.mem_of_getElem? (i := 0) rfl))
  obtain ⟨fs, hr, hrun, hended, hW, hsame⟩ := X10.leave (v := none) (fun _ => rfl)
  refine ⟨_, _, pre0 _ ?_, hrun, hended, _, _, rfl, ?_, ⟨_, rfl⟩, hW, hsame.mono (by decide) (by decide)⟩
  · refine st1 _ ?_
    refine XS.ifYes X1.here hx rfl (pc0 := 3) (pc' := 28) rfl (hb hby d_jdk_52_method_4_3) rfl ((if0 _ _).trans (feq (by decide : ¬ ((1 : Int32) = (0 : Int32)))).2) (by decide) (by decide) ?_
    refine XS.iloadN X1.here hx rfl (hb hby d_jdk_52_method_4_28) rfl ?_
    refine XS.iconst X1.here hx rfl (hb hby d_jdk_52_method_4_29) ?_
    refine XS.ishl X1.here hx rfl (hb hby d_jdk_52_method_4_30) rfl ?_
    show Steps p.tables e below (T1.setTop (mkF m 31 #[.val (.ref a1), .val (.int (1 : Int32)), .val (.int i2)] [(.int (2 : Int32))])) _
    refine XS.istoreN X1.here hx rfl (hb hby d_jdk_52_method_4_31) rfl (l' := #[.val (.ref a1), .val (.int (2 : Int32)), .val (.int i2)]) rfl ?_
    refine XS.aloadN X1.here hx rfl (hb hby d_jdk_52_method_4_32) rfl rfl ?_
    refine XS.iloadN X1.here hx rfl (hb hby d_jdk_52_method_4_33) rfl ?_
    refine XS.iinc X1.here hx rfl (hb hby d_jdk_52_method_4_34) rfl (l' := #[.val (.ref a1), .val (.int (3 : Int32)), .val (.int i2)]) rfl ?_
    refine XS.iloadN X1.here hx rfl (hb hby d_jdk_52_method_4_37) rfl ?_
    refine st2 _ ?_
    refine XS.ishr X2.here hx rfl (hb hby d_jdk_52_method_4_41) rfl ?_
    refine XS.i2b X2.here hx rfl (hb hby d_jdk_52_method_4_42) rfl ?_
    refine st4 _ ?_
    refine XS.aloadN X4.here hx rfl (hb hby d_jdk_52_method_4_44) rfl rfl ?_
    refine XS.iloadN X4.here hx rfl (hb hby d_jdk_52_method_4_45) rfl ?_
    refine XS.iloadN X4.here hx rfl (hb hby d_jdk_52_method_4_46) rfl ?_
    refine st8 _ ?_
    refine XS.ishr X8.here hx rfl (hb hby d_jdk_52_method_4_50) rfl ?_
    refine XS.i2b X8.here hx rfl (hb hby d_jdk_52_method_4_51) rfl ?_
    refine st10 _ ?_
    exact X10.returnOut hx Bd.returns (hb hby d_jdk_52_method_4_53) hr
  · show Q_rc72_putChar Z a1 i2 k3 i4 i5 h0 n0 _ T10.heap _
    rw [e10]
    exact ⟨rfl, N10, K13, v11⟩
def Q_rc73_putChar (Z : State) (a1 : Addr) (i2 : Int32) (k3 : ClassId) (i4 : Int32) (i5 : Int32) (i6 : Int32) (i7 : Int32) (h0 : Heap) (n0 : Nat) (v : Option Value) (h : Heap) (L : List Loc) : Prop := v = none ∧ Fr n0 L ∧ Keep h0 h [a1] ∧ Arv Z h a1 k3 .byte (6 : Int32) [(.int i4), (.int i5), (.int i6), (.int i7), (.int (nar .byte ((i2 >>> ((0 : Int32) &&& 31)).toInt8.toInt32))), (.int (nar .byte ((i2 >>> ((8 : Int32) &&& 31)).toInt8.toInt32)))] (.int (0 : Int32))
set_option maxRecDepth 65536 in
set_option maxHeartbeats 40000000 in
theorem rc73_putChar (l : Launch) (Z : State) (a0 : Array Value) (hw : ∀ d ∈ tables_1, d.before a0 Z = true) (ws : List Jvm.Cond) (cs : Int32) (hS : SB Z cs) (a1 : Addr) (i2 : Int32) (k3 : ClassId) (i4 : Int32) (i5 : Int32) (i6 : Int32) (i7 : Int32) (h0 : Heap) (n0 : Nat) (O0 : Old Z n0 h0) (g_a1 : n0 ≤ a1) (V_a1 : Arv Z h0 a1 k3 .byte (6 : Int32) [(.int i4), (.int i5), (.int i6), (.int i7), (.int (0 : Int32)), (.int (0 : Int32))] (.int (0 : Int32))) :
    Met l my_8 jdk_52_method_4_code 3 none ws ({ frames := 0, cells := 0, slots := 0, locals := 0 } : Room) #[(.ref a1), (.int (2 : Int32)), (.int i2)] Z h0 (Q_rc73_putChar Z a1 i2 k3 i4 i5 i6 i7 h0 n0) := by
  refine MetFree.of_bodySF (plainFor_of_name pn_3) hisR ?_
  intro p e s m args below meth c s₁ Bd hml0 hP hK
  obtain ⟨rfl, hZ, hh⟩ := hP
  have hx := Bd.exec
  have hby := Bd.bytes
  have hml : c.maxLocals = 3 := hml0
  have hown : s.vm.findClass nString_1 = some m.cls := findClass_of_methodNamed Bd.named
  have hnm := (name_of_methodNamed Bd.named Bd.method).1
  have X0 : Stand p l e ({ frames := 0, cells := 0, slots := 0, locals := 0 } : Room) s m #[(.ref a1), (.int (2 : Int32)), (.int i2)] below meth c s₁ [] 0 0 := Stand.of_body Bd
  have e0 : s₁.heap = h0 := by rw [← hh, Bd.state]; rfl
  have N0 := Fr.nil n0
  obtain ⟨f₀, hf₀⟩ : ∃ f, f = entryFrame m #[(.ref a1), (.int (2 : Int32)), (.int i2)] 3 := ⟨_, rfl⟩
  rw [← hf₀]
  have pre0 : Go p e below s₁ f₀ s₁ (mkF m 0 #[.val (.ref a1), .val (.int (2 : Int32)), .val (.int i2)] []) := fun t k => castTop (hf₀.trans (ef_rc73_putChar m (a1) ((2 : Int32)) (i2))) k
  obtain ⟨T1, X1, e1, st1⟩ := getS2 X0 hx hZ hown (host := "") (Or.inl (wq hw 71 rfl)) Via.refl e0 (hS.2.2.1.ext O0.2) (g := (mkF m 0 #[.val (.ref a1), .val (.int (2 : Int32)), .val (.int i2)] [])) rfl (hb hby d_jdk_52_method_4_0)
  obtain ⟨T2, X2, e2, st2⟩ := getS2 X1 hx hZ hown (host := "") (Or.inl (wq hw 72 rfl)) Via.refl e1 (hS.2.2.2.1.ext O0.2) (g := (mkF m 38 #[.val (.ref a1), .val (.int (5 : Int32)), .val (.int i2)] [(.int i2), (.int (4 : Int32)), (.ref a1)])) rfl (hb hby d_jdk_52_method_4_38)
  obtain ⟨c3, Ar3, q3, S3, M3, Hh3, G3⟩ := (id V_a1)
  have hin3 : ¬ ((4 : Int32) < 0 ∨ c3.slots.size ≤ ((4 : Int32)).toNatClampNeg) := inb_of S3 ⟨by decide, by decide⟩
  obtain ⟨T4, h4, X4, e4, W4, st4⟩ := stB X2 hx hZ e2 Ar3 (j := (4 : Int32)) hin3 (g := (mkF m 43 #[.val (.ref a1), .val (.int (5 : Int32)), .val (.int i2)] [(.int ((i2 >>> ((0 : Int32) &&& 31)).toInt8.toInt32)), (.int (4 : Int32)), (.ref a1)])) rfl rfl (hb hby d_jdk_52_method_4_43)
  have v5 : Arv Z h4 a1 k3 .byte (6 : Int32) [(.int i4), (.int i5), (.int i6), (.int i7), (.int (nar .byte ((i2 >>> ((0 : Int32) &&& 31)).toInt8.toInt32))), (.int (0 : Int32))] (.int (0 : Int32)) := Arv.set Ar3 q3 S3 M3 Hh3 G3 (fits_nar_byte _) W4 4 rfl (Nat.le_of_ble_eq_true rfl)
  have N4 := Fr.snoc X4 N0 g_a1
  have O6 : Old Z n0 h4 := Old.wr O0 W4 g_a1
  have K7 : Keep h0 h4 [a1] := (Keep.refl h0 [a1]).wr W4 (Or.inl (List.mem_of_getElem? (i := 0) rfl))
  obtain ⟨T8, X8, e8, st8⟩ := getS2 X4 hx hZ hown (host := "") (Or.inl (wq hw 73 rfl)) Via.refl e4 (hS.2.2.2.2.ext O6.2) (g := (mkF m 47 #[.val (.ref a1), .val (.int (5 : Int32)), .val (.int i2)] [(.int i2), (.int (5 : Int32)), (.ref a1)])) rfl (hb hby d_jdk_52_method_4_47)
  obtain ⟨c9, Ar9, q9, S9, M9, Hh9, G9⟩ := (id v5)
  have hin9 : ¬ ((5 : Int32) < 0 ∨ c9.slots.size ≤ ((5 : Int32)).toNatClampNeg) := inb_of S9 ⟨by decide, by decide⟩
  obtain ⟨T10, h10, X10, e10, W10, st10⟩ := stB X8 hx hZ e8 Ar9 (j := (5 : Int32)) hin9 (g := (mkF m 52 #[.val (.ref a1), .val (.int (5 : Int32)), .val (.int i2)] [(.int ((i2 >>> ((8 : Int32) &&& 31)).toInt8.toInt32)), (.int (5 : Int32)), (.ref a1)])) rfl rfl (hb hby d_jdk_52_method_4_52)
  have v11 : Arv Z h10 a1 k3 .byte (6 : Int32) [(.int i4), (.int i5), (.int i6), (.int i7), (.int (nar .byte ((i2 >>> ((0 : Int32) &&& 31)).toInt8.toInt32))), (.int (nar .byte ((i2 >>> ((8 : Int32) &&& 31)).toInt8.toInt32)))] (.int (0 : Int32)) := Arv.set Ar9 q9 S9 M9 Hh9 G9 (fits_nar_byte _) W10 5 rfl (Nat.le_of_ble_eq_true rfl)
  have N10 := Fr.snoc X10 N4 g_a1
  have O12 : Old Z n0 h10 := Old.wr O6 W10 g_a1
  have K13 : Keep h0 h10 [a1] := K7.wr W10 (Or.inl (List.mem_of_getElem? (i := 0) rfl))
  obtain ⟨fs, hr, hrun, hended, hW, hsame⟩ := X10.leave (v := none) (fun _ => rfl)
  refine ⟨_, _, pre0 _ ?_, hrun, hended, _, _, rfl, ?_, ⟨_, rfl⟩, hW, hsame.mono (by decide) (by decide)⟩
  · refine st1 _ ?_
    refine XS.ifYes X1.here hx rfl (pc0 := 3) (pc' := 28) rfl (hb hby d_jdk_52_method_4_3) rfl ((if0 _ _).trans (feq (by decide : ¬ ((1 : Int32) = (0 : Int32)))).2) (by decide) (by decide) ?_
    refine XS.iloadN X1.here hx rfl (hb hby d_jdk_52_method_4_28) rfl ?_
    refine XS.iconst X1.here hx rfl (hb hby d_jdk_52_method_4_29) ?_
    refine XS.ishl X1.here hx rfl (hb hby d_jdk_52_method_4_30) rfl ?_
    show Steps p.tables e below (T1.setTop (mkF m 31 #[.val (.ref a1), .val (.int (2 : Int32)), .val (.int i2)] [(.int (4 : Int32))])) _
    refine XS.istoreN X1.here hx rfl (hb hby d_jdk_52_method_4_31) rfl (l' := #[.val (.ref a1), .val (.int (4 : Int32)), .val (.int i2)]) rfl ?_
    refine XS.aloadN X1.here hx rfl (hb hby d_jdk_52_method_4_32) rfl rfl ?_
    refine XS.iloadN X1.here hx rfl (hb hby d_jdk_52_method_4_33) rfl ?_
    refine XS.iinc X1.here hx rfl (hb hby d_jdk_52_method_4_34) rfl (l' := #[.val (.ref a1), .val (.int (5 : Int32)), .val (.int i2)]) rfl ?_
    refine XS.iloadN X1.here hx rfl (hb hby d_jdk_52_method_4_37) rfl ?_
    refine st2 _ ?_
    refine XS.ishr X2.here hx rfl (hb hby d_jdk_52_method_4_41) rfl ?_
    refine XS.i2b X2.here hx rfl (hb hby d_jdk_52_method_4_42) rfl ?_
    refine st4 _ ?_
    refine XS.aloadN X4.here hx rfl (hb hby d_jdk_52_method_4_44) rfl rfl ?_
    refine XS.iloadN X4.here hx rfl (hb hby d_jdk_52_method_4_45) rfl ?_
    refine XS.iloadN X4.here hx rfl (hb hby d_jdk_52_method_4_46) rfl ?_
    refine st8 _ ?_
    refine XS.ishr X8.here hx rfl (hb hby d_jdk_52_method_4_50) rfl ?_
    refine XS.i2b X8.here hx rfl (hb hby d_jdk_52_method_4_51) rfl ?_
    refine st10 _ ?_
    exact X10.returnOut hx Bd.returns (hb hby d_jdk_52_method_4_53) hr
  · show Q_rc73_putChar Z a1 i2 k3 i4 i5 i6 i7 h0 n0 _ T10.heap _
    rw [e10]
    exact ⟨rfl, N10, K13, v11⟩
def Q_rc68_toBytes (Z : State) (a1 : Addr) (k2 : ClassId) (i3 : Int32) (i4 : Int32) (i5 : Int32) (h0 : Heap) (n0 : Nat) (v : Option Value) (h : Heap) (L : List Loc) : Prop := ∃ (x1_b2 : Addr), ∃ (x1_k2 : ClassId), v = some (.ref x1_b2) ∧ Fr n0 L ∧ Keep h0 h [] ∧ h0.size ≤ x1_b2 ∧ Arv Z h x1_b2 x1_k2 .byte (6 : Int32) [(.int (nar .byte ((i3 >>> ((0 : Int32) &&& 31)).toInt8.toInt32))), (.int (nar .byte ((i3 >>> ((8 : Int32) &&& 31)).toInt8.toInt32))), (.int (nar .byte ((i4 >>> ((0 : Int32) &&& 31)).toInt8.toInt32))), (.int (nar .byte ((i4 >>> ((8 : Int32) &&& 31)).toInt8.toInt32))), (.int (nar .byte ((i5 >>> ((0 : Int32) &&& 31)).toInt8.toInt32))), (.int (nar .byte ((i5 >>> ((8 : Int32) &&& 31)).toInt8.toInt32)))] (.int (0 : Int32))
set_option maxRecDepth 65536 in
set_option maxHeartbeats 40000000 in
theorem rc68_toBytes (l : Launch) (Z : State) (a0 : Array Value) (hw : ∀ d ∈ tables_1, d.before a0 Z = true) (ws : List Jvm.Cond) (cs : Int32) (hS : SB Z cs) (a1 : Addr) (k2 : ClassId) (i3 : Int32) (i4 : Int32) (i5 : Int32) (h0 : Heap) (n0 : Nat) (O0 : Old Z n0 h0) (g_a1 : n0 ≤ a1) (V_a1 : Arv Z h0 a1 k2 .char (3 : Int32) [(.int i3), (.int i4), (.int i5)] (.int (0 : Int32))) :
    Met l my_9 jdk_52_method_14_code 5 (some (.array .byte)) ws ({ frames := 2, cells := 1, slots := 6, locals := 24 } : Room) #[(.ref a1), (.int (0 : Int32)), (.int (3 : Int32))] Z h0 (Q_rc68_toBytes Z a1 k2 i3 i4 i5 h0 n0) := by
  refine MetFree.of_bodySF (plainFor_of_name pn_3) hisR ?_
  intro p e s m args below meth c s₁ Bd hml0 hP hK
  obtain ⟨rfl, hZ, hh⟩ := hP
  have hx := Bd.exec
  have hby := Bd.bytes
  have hml : c.maxLocals = 5 := hml0
  have hown : s.vm.findClass nString_1 = some m.cls := findClass_of_methodNamed Bd.named
  have hnm := (name_of_methodNamed Bd.named Bd.method).1
  have X0 : Stand p l e ({ frames := 2, cells := 1, slots := 6, locals := 24 } : Room) s m #[(.ref a1), (.int (0 : Int32)), (.int (3 : Int32))] below meth c s₁ [] 0 0 := Stand.of_body Bd
  have e0 : s₁.heap = h0 := by rw [← hh, Bd.state]; rfl
  have N0 := Fr.nil n0
  obtain ⟨f₀, hf₀⟩ : ∃ f, f = entryFrame m #[(.ref a1), (.int (0 : Int32)), (.int (3 : Int32))] 5 := ⟨_, rfl⟩
  rw [← hf₀]
  have pre0 : Go p e below s₁ f₀ s₁ (mkF m 0 #[.val (.ref a1), .val (.int (0 : Int32)), .val (.int (3 : Int32)), .unset, .unset] []) := fun t k => castTop (hf₀.trans (ef_rc68_toBytes m (a1) ((0 : Int32)) ((3 : Int32)))) k
  obtain ⟨_, _, ⟨T1, L1, k1, n1⟩, -, X1, ⟨Lc1, hQ1, l1, y1, z1⟩, st1⟩ := Jvm.LawKit.callS X0 hx (y := my_7) hown (mvT hZ (wq hw 61 rfl)) (mvT hZ (wq hw 62 rfl)) (mvT hZ (wq hw 39 rfl)) (mvT hZ (wq hw 63 rfl)) (by decide) (backOf (W := 0) (rc69_newBytesFor l Z a0 hw [] cs hS  h0 n0 O0 ) hZ (wq hw 63 rfl) (wq hw 39 rfl) (by decide) (by decide)) (g := (mkF m 1 #[.val (.ref a1), .val (.int (0 : Int32)), .val (.int (3 : Int32)), .unset, .unset] [(.int (3 : Int32))])) rfl (by rw [hml]; rfl) (argsL := [(.int (3 : Int32))]) (rest := []) (lenOf pd_7 rfl) rfl (by show 2 * 0 + _ ≤ _; exact Nat.le_of_eq rfl) (hb hby d_jdk_52_method_14_1) (fun _ _ => ⟨rfl, e0, (by decide : 0 + 1 ≤ _), (by decide : 0 + 6 ≤ _)⟩)
  dsimp only [Pt.U, Pt.locs, Pt.cells, Pt.slots] at X1 l1 y1 z1 st1 hQ1
  have X1 := own_to X1 l1 y1 z1
  obtain ⟨x1_b2, x1_k2, rfl, N1q, K1, sz1_b2, q1_0⟩ := hQ1
  have N1 := Fr.app N0 N1q
  have g2 : n0 ≤ x1_b2 := Nat.le_trans (Nat.le_of_eq O0.1.symm) (Nat.le_trans O0.2.1 sz1_b2)
  have s3 : h0.size ≤ x1_b2 := Nat.le_trans (Keep.refl h0 []).1 sz1_b2
  have ne4 : a1 ≠ x1_b2 := Nat.ne_of_lt (Nat.lt_of_lt_of_le V_a1.lt sz1_b2)
  have O5 : Old Z n0 T1.heap := Old.keep O0 K1 all0
  have K6 : Keep h0 T1.heap [] := (Keep.refl h0 []).trans K1 all0
  have t7 : Arv Z T1.heap a1 k2 .char (3 : Int32) [(.int i3), (.int i4), (.int i5)] (.int (0 : Int32)) := (V_a1.keep K1 nin0)
  obtain ⟨c8, Ar8, q8, S8, M8, Hh8, G8⟩ := (id t7)
  have hin8 : ¬ ((0 : Int32) < 0 ∨ c8.slots.size ≤ ((0 : Int32)).toNatClampNeg) := inb_of S8 ⟨by decide, by decide⟩
  have hat8 : c8.slots[((0 : Int32)).toNatClampNeg]? = some (.int i3) := Hh8.at hin8 rfl
  obtain ⟨_, _, ⟨T9, L9, k9, n9⟩, -, X9, ⟨Lc9, hQ9, l9, y9, z9⟩, st9⟩ := Jvm.LawKit.callS X1 hx (y := my_8) hown (mvT hZ (wq hw 68 rfl)) (mvT hZ (wq hw 69 rfl)) (mvT hZ (wq hw 39 rfl)) (mvT hZ (wq hw 70 rfl)) (by decide) (backOf (W := 0) (rc71_putChar l Z a0 hw [] cs hS x1_b2 i3 x1_k2 T1.heap n0 O5 g2 q1_0) hZ (wq hw 70 rfl) (wq hw 39 rfl) (by decide) (by decide)) (g := (mkF m 20 #[.val (.ref a1), .val (.int (0 : Int32)), .val (.int (3 : Int32)), .val (.ref x1_b2), .val (.int (0 : Int32))] [(.int i3), (.int (0 : Int32)), (.ref x1_b2)])) rfl (by rw [hml]; rfl) (argsL := [(.ref x1_b2), (.int (0 : Int32)), (.int i3)]) (rest := []) (lenOf pd_8 rfl) rfl (by show 2 * 0 + _ ≤ _; exact Nat.le_of_eq rfl) (hb hby d_jdk_52_method_14_20) (fun _ _ => ⟨rfl, rfl, (by decide : 1 + 0 ≤ _), (by decide : 6 + 0 ≤ _)⟩)
  dsimp only [Pt.U, Pt.locs, Pt.cells, Pt.slots] at X9 l9 y9 z9 st9 hQ9
  have X9 := own_to X9 l9 y9 z9
  obtain ⟨rfl, N9q, K9, q9_0⟩ := hQ9
  have N9 := Fr.app N1 N9q
  have O10 : Old Z n0 T9.heap := Old.keep O5 K9 (allS g2 all0)
  have K11 : Keep h0 T9.heap [] := K6.trans K9 (allS (Or.inr s3) all0)
  have t12 : Arv Z T9.heap a1 k2 .char (3 : Int32) [(.int i3), (.int i4), (.int i5)] (.int (0 : Int32)) := (t7.keep K9 (ninS ne4 nin0))
  obtain ⟨c13, Ar13, q13, S13, M13, Hh13, G13⟩ := (id t12)
  have hin13 : ¬ ((1 : Int32) < 0 ∨ c13.slots.size ≤ ((1 : Int32)).toNatClampNeg) := inb_of S13 ⟨by decide, by decide⟩
  have hat13 : c13.slots[((1 : Int32)).toNatClampNeg]? = some (.int i4) := Hh13.at hin13 rfl
  obtain ⟨_, _, ⟨T14, L14, k14, n14⟩, -, X14, ⟨Lc14, hQ14, l14, y14, z14⟩, st14⟩ := Jvm.LawKit.callS X9 hx (y := my_8) hown (mvT hZ (wq hw 68 rfl)) (mvT hZ (wq hw 69 rfl)) (mvT hZ (wq hw 39 rfl)) (mvT hZ (wq hw 70 rfl)) (by decide) (backOf (W := 0) (rc72_putChar l Z a0 hw [] cs hS x1_b2 i4 x1_k2 (nar .byte ((i3 >>> ((0 : Int32) &&& 31)).toInt8.toInt32)) (nar .byte ((i3 >>> ((8 : Int32) &&& 31)).toInt8.toInt32)) T9.heap n0 O10 g2 q9_0) hZ (wq hw 70 rfl) (wq hw 39 rfl) (by decide) (by decide)) (g := (mkF m 20 #[.val (.ref a1), .val (.int (1 : Int32)), .val (.int (3 : Int32)), .val (.ref x1_b2), .val (.int (1 : Int32))] [(.int i4), (.int (1 : Int32)), (.ref x1_b2)])) rfl (by rw [hml]; rfl) (argsL := [(.ref x1_b2), (.int (1 : Int32)), (.int i4)]) (rest := []) (lenOf pd_8 rfl) rfl (by show 2 * 0 + _ ≤ _; exact Nat.le_of_eq rfl) (hb hby d_jdk_52_method_14_20) (fun _ _ => ⟨rfl, rfl, (by decide : 1 + 0 ≤ _), (by decide : 6 + 0 ≤ _)⟩)
  dsimp only [Pt.U, Pt.locs, Pt.cells, Pt.slots] at X14 l14 y14 z14 st14 hQ14
  have X14 := own_to X14 l14 y14 z14
  obtain ⟨rfl, N14q, K14, q14_0⟩ := hQ14
  have N14 := Fr.app N9 N14q
  have O15 : Old Z n0 T14.heap := Old.keep O10 K14 (allS g2 all0)
  have K16 : Keep h0 T14.heap [] := K11.trans K14 (allS (Or.inr s3) all0)
  have t17 : Arv Z T14.heap a1 k2 .char (3 : Int32) [(.int i3), (.int i4), (.int i5)] (.int (0 : Int32)) := (t12.keep K14 (ninS ne4 nin0))
  obtain ⟨c18, Ar18, q18, S18, M18, Hh18, G18⟩ := (id t17)
  have hin18 : ¬ ((2 : Int32) < 0 ∨ c18.slots.size ≤ ((2 : Int32)).toNatClampNeg) := inb_of S18 ⟨by decide, by decide⟩
  have hat18 : c18.slots[((2 : Int32)).toNatClampNeg]? = some (.int i5) := Hh18.at hin18 rfl
  obtain ⟨_, _, ⟨T19, L19, k19, n19⟩, -, X19, ⟨Lc19, hQ19, l19, y19, z19⟩, st19⟩ := Jvm.LawKit.callS X14 hx (y := my_8) hown (mvT hZ (wq hw 68 rfl)) (mvT hZ (wq hw 69 rfl)) (mvT hZ (wq hw 39 rfl)) (mvT hZ (wq hw 70 rfl)) (by decide) (backOf (W := 0) (rc73_putChar l Z a0 hw [] cs hS x1_b2 i5 x1_k2 (nar .byte ((i3 >>> ((0 : Int32) &&& 31)).toInt8.toInt32)) (nar .byte ((i3 >>> ((8 : Int32) &&& 31)).toInt8.toInt32)) (nar .byte ((i4 >>> ((0 : Int32) &&& 31)).toInt8.toInt32)) (nar .byte ((i4 >>> ((8 : Int32) &&& 31)).toInt8.toInt32)) T14.heap n0 O15 g2 q14_0) hZ (wq hw 70 rfl) (wq hw 39 rfl) (by decide) (by decide)) (g := (mkF m 20 #[.val (.ref a1), .val (.int (2 : Int32)), .val (.int (3 : Int32)), .val (.ref x1_b2), .val (.int (2 : Int32))] [(.int i5), (.int (2 : Int32)), (.ref x1_b2)])) rfl (by rw [hml]; rfl) (argsL := [(.ref x1_b2), (.int (2 : Int32)), (.int i5)]) (rest := []) (lenOf pd_8 rfl) rfl (by show 2 * 0 + _ ≤ _; exact Nat.le_of_eq rfl) (hb hby d_jdk_52_method_14_20) (fun _ _ => ⟨rfl, rfl, (by decide : 1 + 0 ≤ _), (by decide : 6 + 0 ≤ _)⟩)
  dsimp only [Pt.U, Pt.locs, Pt.cells, Pt.slots] at X19 l19 y19 z19 st19 hQ19
  have X19 := own_to X19 l19 y19 z19
  obtain ⟨rfl, N19q, K19, q19_0⟩ := hQ19
  have N19 := Fr.app N14 N19q
  have O20 : Old Z n0 T19.heap := Old.keep O15 K19 (allS g2 all0)
  have K21 : Keep h0 T19.heap [] := K16.trans K19 (allS (Or.inr s3) all0)
  obtain ⟨fs, hr, hrun, hended, hW, hsame⟩ := X19.leave (v := (some (.ref x1_b2))) (fun h => by rw [Bd.returns] at h; cases h)
  refine ⟨_, _, pre0 _ ?_, hrun, hended, _, _, rfl, ?_, ⟨_, rfl⟩, hW, hsame.mono (by decide) (by decide)⟩
  · refine XS.iloadN X0.here hx rfl (hb hby d_jdk_52_method_14_0) rfl ?_
    refine st1 _ ?_
    refine XS.astoreN X1.here hx rfl (hb hby d_jdk_52_method_14_4) rfl rfl (l' := #[.val (.ref a1), .val (.int (0 : Int32)), .val (.int (3 : Int32)), .val (.ref x1_b2), .unset]) rfl ?_
    refine XS.iconst X1.here hx rfl (hb hby d_jdk_52_method_14_5) ?_
    refine XS.istore X1.here hx rfl (hb hby d_jdk_52_method_14_6) rfl (l' := #[.val (.ref a1), .val (.int (0 : Int32)), .val (.int (3 : Int32)), .val (.ref x1_b2), .val (.int (0 : Int32))]) rfl ?_
    refine XS.iload X1.here hx rfl (hb hby d_jdk_52_method_14_8) rfl ?_
    refine XS.iloadN X1.here hx rfl (hb hby d_jdk_52_method_14_10) rfl ?_
    refine XS.icmpNo X1.here hx rfl (hb hby d_jdk_52_method_14_11) rfl (tlt (by decide : (0 : Int32) < (3 : Int32))).2.1 ?_
    refine XS.aloadN X1.here hx rfl (hb hby d_jdk_52_method_14_14) rfl rfl ?_
    refine XS.iload X1.here hx rfl (hb hby d_jdk_52_method_14_15) rfl ?_
    refine XS.aloadN X1.here hx rfl (hb hby d_jdk_52_method_14_17) rfl rfl ?_
    refine XS.iloadN X1.here hx rfl (hb hby d_jdk_52_method_14_18) rfl ?_
    refine X1.caload hx (j := (0 : Int32)) (v := (.int i3)) Ar8.1 (State.isArrayOf_alike hZ.alike Ar8.2.1) Ar8.2.2 hin8 hat8 (g := (mkF m 19 #[.val (.ref a1), .val (.int (0 : Int32)), .val (.int (3 : Int32)), .val (.ref x1_b2), .val (.int (0 : Int32))] [(.int (0 : Int32)), (.ref a1), (.int (0 : Int32)), (.ref x1_b2)])) rfl rfl (hb hby d_jdk_52_method_14_19) _ ?_
    refine st9 _ ?_
    refine XS.iinc X9.here hx rfl (hb hby d_jdk_52_method_14_23) rfl (l' := #[.val (.ref a1), .val (.int (1 : Int32)), .val (.int (3 : Int32)), .val (.ref x1_b2), .val (.int (0 : Int32))]) rfl ?_
    refine XS.iinc X9.here hx rfl (hb hby d_jdk_52_method_14_26) rfl (l' := #[.val (.ref a1), .val (.int (1 : Int32)), .val (.int (3 : Int32)), .val (.ref x1_b2), .val (.int (1 : Int32))]) rfl ?_
    refine XS.goto X9.here hx rfl (pc0 := 29) (pc' := 8) rfl (hb hby d_jdk_52_method_14_29) (by decide) (by decide) ?_
    refine XS.iload X9.here hx rfl (hb hby d_jdk_52_method_14_8) rfl ?_
    refine XS.iloadN X9.here hx rfl (hb hby d_jdk_52_method_14_10) rfl ?_
    refine XS.icmpNo X9.here hx rfl (hb hby d_jdk_52_method_14_11) rfl (tlt (by decide : (1 : Int32) < (3 : Int32))).2.1 ?_
    refine XS.aloadN X9.here hx rfl (hb hby d_jdk_52_method_14_14) rfl rfl ?_
    refine XS.iload X9.here hx rfl (hb hby d_jdk_52_method_14_15) rfl ?_
    refine XS.aloadN X9.here hx rfl (hb hby d_jdk_52_method_14_17) rfl rfl ?_
    refine XS.iloadN X9.here hx rfl (hb hby d_jdk_52_method_14_18) rfl ?_
    refine X9.caload hx (j := (1 : Int32)) (v := (.int i4)) Ar13.1 (State.isArrayOf_alike hZ.alike Ar13.2.1) Ar13.2.2 hin13 hat13 (g := (mkF m 19 #[.val (.ref a1), .val (.int (1 : Int32)), .val (.int (3 : Int32)), .val (.ref x1_b2), .val (.int (1 : Int32))] [(.int (1 : Int32)), (.ref a1), (.int (1 : Int32)), (.ref x1_b2)])) rfl rfl (hb hby d_jdk_52_method_14_19) _ ?_
    refine st14 _ ?_
    refine XS.iinc X14.here hx rfl (hb hby d_jdk_52_method_14_23) rfl (l' := #[.val (.ref a1), .val (.int (2 : Int32)), .val (.int (3 : Int32)), .val (.ref x1_b2), .val (.int (1 : Int32))]) rfl ?_
    refine XS.iinc X14.here hx rfl (hb hby d_jdk_52_method_14_26) rfl (l' := #[.val (.ref a1), .val (.int (2 : Int32)), .val (.int (3 : Int32)), .val (.ref x1_b2), .val (.int (2 : Int32))]) rfl ?_
    refine XS.goto X14.here hx rfl (pc0 := 29) (pc' := 8) rfl (hb hby d_jdk_52_method_14_29) (by decide) (by decide) ?_
    refine XS.iload X14.here hx rfl (hb hby d_jdk_52_method_14_8) rfl ?_
    refine XS.iloadN X14.here hx rfl (hb hby d_jdk_52_method_14_10) rfl ?_
    refine XS.icmpNo X14.here hx rfl (hb hby d_jdk_52_method_14_11) rfl (tlt (by decide : (2 : Int32) < (3 : Int32))).2.1 ?_
    refine XS.aloadN X14.here hx rfl (hb hby d_jdk_52_method_14_14) rfl rfl ?_
    refine XS.iload X14.here hx rfl (hb hby d_jdk_52_method_14_15) rfl ?_
    refine XS.aloadN X14.here hx rfl (hb hby d_jdk_52_method_14_17) rfl rfl ?_
    refine XS.iloadN X14.here hx rfl (hb hby d_jdk_52_method_14_18) rfl ?_
    refine X14.caload hx (j := (2 : Int32)) (v := (.int i5)) Ar18.1 (State.isArrayOf_alike hZ.alike Ar18.2.1) Ar18.2.2 hin18 hat18 (g := (mkF m 19 #[.val (.ref a1), .val (.int (2 : Int32)), .val (.int (3 : Int32)), .val (.ref x1_b2), .val (.int (2 : Int32))] [(.int (2 : Int32)), (.ref a1), (.int (2 : Int32)), (.ref x1_b2)])) rfl rfl (hb hby d_jdk_52_method_14_19) _ ?_
    refine st19 _ ?_
    refine XS.iinc X19.here hx rfl (hb hby d_jdk_52_method_14_23) rfl (l' := #[.val (.ref a1), .val (.int (3 : Int32)), .val (.int (3 : Int32)), .val (.ref x1_b2), .val (.int (2 : Int32))]) rfl ?_
    refine XS.iinc X19.here hx rfl (hb hby d_jdk_52_method_14_26) rfl (l' := #[.val (.ref a1), .val (.int (3 : Int32)), .val (.int (3 : Int32)), .val (.ref x1_b2), .val (.int (3 : Int32))]) rfl ?_
    refine XS.goto X19.here hx rfl (pc0 := 29) (pc' := 8) rfl (hb hby d_jdk_52_method_14_29) (by decide) (by decide) ?_
    refine XS.iload X19.here hx rfl (hb hby d_jdk_52_method_14_8) rfl ?_
    refine XS.iloadN X19.here hx rfl (hb hby d_jdk_52_method_14_10) rfl ?_
    refine XS.icmpYes X19.here hx rfl (pc0 := 11) (pc' := 32) rfl (hb hby d_jdk_52_method_14_11) rfl (flt (by decide : ¬ ((3 : Int32) < (3 : Int32)))).2.1 (by decide) (by decide) ?_
    refine XS.aloadN X19.here hx rfl (hb hby d_jdk_52_method_14_32) rfl rfl ?_
    exact retOut X19 hx Bd.returns rfl (Or.inr (Or.inr (Or.inr (Or.inr ⟨rfl, rfl, rfl⟩)))) (hb hby d_jdk_52_method_14_33) hr
  · show Q_rc68_toBytes Z a1 k2 i3 i4 i5 h0 n0 _ T19.heap _
    exact ⟨x1_b2, x1_k2, rfl, N19, K21, s3, q19_0⟩
def Q_rc74_getChar (Z : State) (a1 : Addr) (k2 : ClassId) (i3 : Int32) (i4 : Int32) (i5 : Int32) (i6 : Int32) (i7 : Int32) (i8 : Int32) (h0 : Heap) (n0 : Nat) (v : Option Value) (h : Heap) (L : List Loc) : Prop := v = some (.int (nar .char ((((i3 &&& (255 : Int32)) <<< ((0 : Int32) &&& 31)) ||| ((i4 &&& (255 : Int32)) <<< ((8 : Int32) &&& 31))).toUInt32.toUInt16.toUInt32.toInt32))) ∧ Fr n0 L ∧ h = h0
set_option maxRecDepth 65536 in
set_option maxHeartbeats 40000000 in
theorem rc74_getChar (l : Launch) (Z : State) (a0 : Array Value) (hw : ∀ d ∈ tables_1, d.before a0 Z = true) (ws : List Jvm.Cond) (cs : Int32) (hS : SB Z cs) (a1 : Addr) (k2 : ClassId) (i3 : Int32) (i4 : Int32) (i5 : Int32) (i6 : Int32) (i7 : Int32) (i8 : Int32) (h0 : Heap) (n0 : Nat) (O0 : Old Z n0 h0) (g_a1 : n0 ≤ a1) (V_a1 : Arv Z h0 a1 k2 .byte (6 : Int32) [(.int i3), (.int i4), (.int i5), (.int i6), (.int i7), (.int i8)] (.int (0 : Int32))) :
    Met l my_10 jdk_52_method_5_code 2 (some .char) ws ({ frames := 0, cells := 0, slots := 0, locals := 0 } : Room) #[(.ref a1), (.int (0 : Int32))] Z h0 (Q_rc74_getChar Z a1 k2 i3 i4 i5 i6 i7 i8 h0 n0) := by
  refine MetFree.of_bodySF (plainFor_of_name pn_3) hisR ?_
  intro p e s m args below meth c s₁ Bd hml0 hP hK
  obtain ⟨rfl, hZ, hh⟩ := hP
  have hx := Bd.exec
  have hby := Bd.bytes
  have hml : c.maxLocals = 2 := hml0
  have hown : s.vm.findClass nString_1 = some m.cls := findClass_of_methodNamed Bd.named
  have hnm := (name_of_methodNamed Bd.named Bd.method).1
  have X0 : Stand p l e ({ frames := 0, cells := 0, slots := 0, locals := 0 } : Room) s m #[(.ref a1), (.int (0 : Int32))] below meth c s₁ [] 0 0 := Stand.of_body Bd
  have e0 : s₁.heap = h0 := by rw [← hh, Bd.state]; rfl
  have N0 := Fr.nil n0
  obtain ⟨f₀, hf₀⟩ : ∃ f, f = entryFrame m #[(.ref a1), (.int (0 : Int32))] 2 := ⟨_, rfl⟩
  rw [← hf₀]
  have pre0 : Go p e below s₁ f₀ s₁ (mkF m 0 #[.val (.ref a1), .val (.int (0 : Int32))] []) := fun t k => castTop (hf₀.trans (ef_rc74_getChar m (a1) ((0 : Int32)))) k
  obtain ⟨T1, X1, e1, st1⟩ := getS2 X0 hx hZ hown (host := "") (Or.inl (wq hw 71 rfl)) Via.refl e0 (hS.2.2.1.ext O0.2) (g := (mkF m 0 #[.val (.ref a1), .val (.int (0 : Int32))] [])) rfl (hb hby d_jdk_52_method_5_0)
  obtain ⟨c2, Ar2, q2, S2, M2, Hh2, G2⟩ := (id V_a1)
  have hin2 : ¬ ((0 : Int32) < 0 ∨ c2.slots.size ≤ ((0 : Int32)).toNatClampNeg) := inb_of S2 ⟨by decide, by decide⟩
  have hat2 : c2.slots[((0 : Int32)).toNatClampNeg]? = some (.int i3) := Hh2.at hin2 rfl
  obtain ⟨T3, X3, e3, st3⟩ := getS2 X1 hx hZ hown (host := "") (Or.inl (wq hw 72 rfl)) Via.refl e1 (hS.2.2.2.1.ext O0.2) (g := (mkF m 42 #[.val (.ref a1), .val (.int (1 : Int32))] [(.int (i3 &&& (255 : Int32)))])) rfl (hb hby d_jdk_52_method_5_42)
  obtain ⟨c4, Ar4, q4, S4, M4, Hh4, G4⟩ := (id V_a1)
  have hin4 : ¬ ((1 : Int32) < 0 ∨ c4.slots.size ≤ ((1 : Int32)).toNatClampNeg) := inb_of S4 ⟨by decide, by decide⟩
  have hat4 : c4.slots[((1 : Int32)).toNatClampNeg]? = some (.int i4) := Hh4.at hin4 rfl
  obtain ⟨T5, X5, e5, st5⟩ := getS2 X3 hx hZ hown (host := "") (Or.inl (wq hw 73 rfl)) Via.refl e3 (hS.2.2.2.2.ext O0.2) (g := (mkF m 53 #[.val (.ref a1), .val (.int (1 : Int32))] [(.int (i4 &&& (255 : Int32))), (.int ((i3 &&& (255 : Int32)) <<< ((0 : Int32) &&& 31)))])) rfl (hb hby d_jdk_52_method_5_53)
  obtain ⟨fs, hr, hrun, hended, hW, hsame⟩ := X5.leave (v := (some (.int (nar .char ((((i3 &&& (255 : Int32)) <<< ((0 : Int32) &&& 31)) ||| ((i4 &&& (255 : Int32)) <<< ((8 : Int32) &&& 31))).toUInt32.toUInt16.toUInt32.toInt32))))) (fun h => by rw [Bd.returns] at h; cases h)
  refine ⟨_, _, pre0 _ ?_, hrun, hended, _, _, rfl, ?_, ⟨_, rfl⟩, hW, hsame.mono (by decide) (by decide)⟩
  · refine st1 _ ?_
    refine XS.ifYes X1.here hx rfl (pc0 := 3) (pc' := 28) rfl (hb hby d_jdk_52_method_5_3) rfl ((if0 _ _).trans (feq (by decide : ¬ ((1 : Int32) = (0 : Int32)))).2) (by decide) (by decide) ?_
    refine XS.iloadN X1.here hx rfl (hb hby d_jdk_52_method_5_28) rfl ?_
    refine XS.iconst X1.here hx rfl (hb hby d_jdk_52_method_5_29) ?_
    refine XS.ishl X1.here hx rfl (hb hby d_jdk_52_method_5_30) rfl ?_
    show Steps p.tables e below (T1.setTop (mkF m 31 #[.val (.ref a1), .val (.int (0 : Int32))] [(.int (0 : Int32))])) _
    refine XS.istoreN X1.here hx rfl (hb hby d_jdk_52_method_5_31) rfl (l' := #[.val (.ref a1), .val (.int (0 : Int32))]) rfl ?_
    refine XS.aloadN X1.here hx rfl (hb hby d_jdk_52_method_5_32) rfl rfl ?_
    refine XS.iloadN X1.here hx rfl (hb hby d_jdk_52_method_5_33) rfl ?_
    refine XS.iinc X1.here hx rfl (hb hby d_jdk_52_method_5_34) rfl (l' := #[.val (.ref a1), .val (.int (1 : Int32))]) rfl ?_
    refine X1.baloadBytes hx (j := (0 : Int32)) (v := (.int i3)) (by rw [e1]; exact Ar2.1) (State.isArrayOf_alike hZ.alike Ar2.2.1) Ar2.2.2 hin2 hat2 (g := (mkF m 37 #[.val (.ref a1), .val (.int (1 : Int32))] [(.int (0 : Int32)), (.ref a1)])) rfl rfl (hb hby d_jdk_52_method_5_37) _ ?_
    refine XS.sipush X1.here hx rfl (hb hby d_jdk_52_method_5_38) ?_
    refine XS.iand X1.here hx rfl (hb hby d_jdk_52_method_5_41) rfl ?_
    refine st3 _ ?_
    refine XS.ishl X3.here hx rfl (hb hby d_jdk_52_method_5_45) rfl ?_
    refine XS.aloadN X3.here hx rfl (hb hby d_jdk_52_method_5_46) rfl rfl ?_
    refine XS.iloadN X3.here hx rfl (hb hby d_jdk_52_method_5_47) rfl ?_
    refine X3.baloadBytes hx (j := (1 : Int32)) (v := (.int i4)) (by rw [e3]; exact Ar4.1) (State.isArrayOf_alike hZ.alike Ar4.2.1) Ar4.2.2 hin4 hat4 (g := (mkF m 48 #[.val (.ref a1), .val (.int (1 : Int32))] [(.int (1 : Int32)), (.ref a1), (.int ((i3 &&& (255 : Int32)) <<< ((0 : Int32) &&& 31)))])) rfl rfl (hb hby d_jdk_52_method_5_48) _ ?_
    refine XS.sipush X3.here hx rfl (hb hby d_jdk_52_method_5_49) ?_
    refine XS.iand X3.here hx rfl (hb hby d_jdk_52_method_5_52) rfl ?_
    refine st5 _ ?_
    refine XS.ishl X5.here hx rfl (hb hby d_jdk_52_method_5_56) rfl ?_
    refine XS.ior X5.here hx rfl (hb hby d_jdk_52_method_5_57) rfl ?_
    refine XS.i2c X5.here hx rfl (hb hby d_jdk_52_method_5_58) rfl ?_
    exact retN X5 hx (t := .char) Bd.returns (by simp) (hb hby d_jdk_52_method_5_59) hr
  · show Q_rc74_getChar Z a1 k2 i3 i4 i5 i6 i7 i8 h0 n0 _ T5.heap _
    rw [e5]
    exact ⟨rfl, N0, rfl⟩
def Q_rc66_compress (Z : State) (a1 : Addr) (k2 : ClassId) (i3 : Int32) (i4 : Int32) (i5 : Int32) (h0 : Heap) (n0 : Nat) (v : Option Value) (h : Heap) (L : List Loc) : Prop := ∃ (x10_x1_b2 : Addr), ∃ (x10_x1_k2 : ClassId), v = some (.ref x10_x1_b2) ∧ Fr n0 L ∧ Keep h0 h [] ∧ h0.size ≤ x10_x1_b2 ∧ Arv Z h x10_x1_b2 x10_x1_k2 .byte (6 : Int32) [(.int (nar .byte ((i3 >>> ((0 : Int32) &&& 31)).toInt8.toInt32))), (.int (nar .byte ((i3 >>> ((8 : Int32) &&& 31)).toInt8.toInt32))), (.int (nar .byte ((i4 >>> ((0 : Int32) &&& 31)).toInt8.toInt32))), (.int (nar .byte ((i4 >>> ((8 : Int32) &&& 31)).toInt8.toInt32))), (.int (nar .byte ((i5 >>> ((0 : Int32) &&& 31)).toInt8.toInt32))), (.int (nar .byte ((i5 >>> ((8 : Int32) &&& 31)).toInt8.toInt32)))] (.int (0 : Int32))
set_option maxRecDepth 65536 in
set_option maxHeartbeats 40000000 in
theorem rc66_compress (l : Launch) (Z : State) (a0 : Array Value) (hw : ∀ d ∈ tables_1, d.before a0 Z = true) (ws : List Jvm.Cond) (cs : Int32) (hS : SB Z cs) (a1 : Addr) (k2 : ClassId) (i3 : Int32) (i4 : Int32) (i5 : Int32) (h0 : Heap) (n0 : Nat) (O0 : Old Z n0 h0) (g_a1 : n0 ≤ a1) (V_a1 : Arv Z h0 a1 k2 .char (3 : Int32) [(.int i3), (.int i4), (.int i5)] (.int (0 : Int32))) (hy0 : nar .char i3 = i3) (hy3 : (255 : Int32) < i3) :
    Met l my_11 jdk_52_method_16_code 6 (some (.array .byte)) ws ({ frames := 3, cells := 2, slots := 9, locals := 40 } : Room) #[(.ref a1), (.int (0 : Int32)), (.int (3 : Int32))] Z h0 (Q_rc66_compress Z a1 k2 i3 i4 i5 h0 n0) := by
  refine MetFree.of_bodySF (plainFor_of_name pn_3) hisR ?_
  intro p e s m args below meth c s₁ Bd hml0 hP hK
  obtain ⟨rfl, hZ, hh⟩ := hP
  have hx := Bd.exec
  have hby := Bd.bytes
  have hml : c.maxLocals = 6 := hml0
  have hown : s.vm.findClass nString_1 = some m.cls := findClass_of_methodNamed Bd.named
  have hnm := (name_of_methodNamed Bd.named Bd.method).1
  have X0 : Stand p l e ({ frames := 3, cells := 2, slots := 9, locals := 40 } : Room) s m #[(.ref a1), (.int (0 : Int32)), (.int (3 : Int32))] below meth c s₁ [] 0 0 := Stand.of_body Bd
  have e0 : s₁.heap = h0 := by rw [← hh, Bd.state]; rfl
  have N0 := Fr.nil n0
  obtain ⟨f₀, hf₀⟩ : ∃ f, f = entryFrame m #[(.ref a1), (.int (0 : Int32)), (.int (3 : Int32))] 6 := ⟨_, rfl⟩
  rw [← hf₀]
  have pre0 : Go p e below s₁ f₀ s₁ (mkF m 0 #[.val (.ref a1), .val (.int (0 : Int32)), .val (.int (3 : Int32)), .unset, .unset, .unset] []) := fun t k => castTop (hf₀.trans (ef_rc66_compress m (a1) ((0 : Int32)) ((3 : Int32)))) k
  obtain ⟨T1, h1, k1, X1, e1, E1, A1, st1⟩ := newP X0 hx hZ (wq hw 20 rfl) e0 (g := (mkF m 1 #[.val (.ref a1), .val (.int (0 : Int32)), .val (.int (3 : Int32)), .unset, .unset, .unset] [(.int (3 : Int32))])) rfl (hb hby d_jdk_52_method_16_1) rfl (by decide) (cap := 3) (by decide) (by decide) (by decide) (by decide)
  obtain ⟨b1, gb1⟩ : ∃ z, z = h0.size := ⟨_, rfl⟩
  rw [← gb1] at A1 st1
  have ne2 : a1 ≠ b1 := Nat.ne_of_lt (Nat.lt_of_lt_of_le V_a1.lt (Nat.le_of_eq gb1.symm))
  have g3 : n0 ≤ b1 := Nat.le_trans (Nat.le_of_eq O0.1.symm) (Nat.le_trans O0.2.1 (Nat.le_of_eq gb1.symm))
  have s4 : h0.size ≤ b1 := Nat.le_trans (Keep.refl h0 []).1 (Nat.le_of_eq gb1.symm)
  have O5 : Old Z n0 h1 := Old.ext O0 E1
  have K6 : Keep h0 h1 [] := (Keep.refl h0 []).ext E1
  have v7 : Arv Z h1 b1 k1 .byte (3 : Int32) [(.int (0 : Int32)), (.int (0 : Int32)), (.int (0 : Int32))] (.int (0 : Int32)) := (Arv.new A1 (by decide)).pad (pad_rep [] (.int (0 : Int32)) 3)
  have t8 : Arv Z h1 a1 k2 .char (3 : Int32) [(.int i3), (.int i4), (.int i5)] (.int (0 : Int32)) := (V_a1.ext E1)
  obtain ⟨_, _, ⟨T9, L9, k9, n9⟩, -, X9, ⟨Lc9, hQ9, l9, y9, z9⟩, st9⟩ := Jvm.LawKit.callS X1 hx (y := my_5) hown (mvT hZ (wq hw 41 rfl)) (mvT hZ (wq hw 42 rfl)) (mvT hZ (wq hw 39 rfl)) (mvT hZ (wq hw 43 rfl)) (by decide) (backOf (W := 0) (rc67_compress l Z a0 hw [] cs hS a1 b1 k2 i3 i4 i5 h1 n0 O5 g_a1 g3 t8 hy3) hZ (wq hw 43 rfl) (wq hw 39 rfl) (by decide) (by decide)) (g := (mkF m 9 #[.val (.ref a1), .val (.int (0 : Int32)), .val (.int (3 : Int32)), .val (.ref b1), .unset, .unset] [(.int (3 : Int32)), (.int (0 : Int32)), (.ref b1), (.int (0 : Int32)), (.ref a1)])) rfl (by rw [hml]; rfl) (argsL := [(.ref a1), (.int (0 : Int32)), (.ref b1), (.int (0 : Int32)), (.int (3 : Int32))]) (rest := []) (lenOf pd_5 rfl) rfl (by show 2 * 0 + _ ≤ _; exact Nat.le_of_eq rfl) (hb hby d_jdk_52_method_16_9) (fun _ _ => ⟨rfl, e1, (by decide : 1 + 0 ≤ _), (by decide : 3 + 0 ≤ _)⟩)
  dsimp only [Pt.U, Pt.locs, Pt.cells, Pt.slots] at X9 l9 y9 z9 st9 hQ9
  have X9 := own_to X9 l9 y9 z9
  obtain ⟨rfl, N9q, e9⟩ := hQ9
  have N9 := Fr.app N0 N9q
  obtain ⟨_, _, ⟨T10, L10, k10, n10⟩, -, X10, ⟨Lc10, hQ10, l10, y10, z10⟩, st10⟩ := Jvm.LawKit.callS X9 hx (y := my_9) hown (mvT hZ (wq hw 58 rfl)) (mvT hZ (wq hw 59 rfl)) (mvT hZ (wq hw 39 rfl)) (mvT hZ (wq hw 60 rfl)) (by decide) (backOf (W := 0) (rc68_toBytes l Z a0 hw [] cs hS a1 k2 i3 i4 i5 h1 n0 O5 g_a1 t8) hZ (wq hw 60 rfl) (wq hw 39 rfl) (by decide) (by decide)) (g := (mkF m 23 #[.val (.ref a1), .val (.int (0 : Int32)), .val (.int (3 : Int32)), .val (.ref b1), .val (.int (0 : Int32)), .unset] [(.int (3 : Int32)), (.int (0 : Int32)), (.ref a1)])) rfl (by rw [hml]; rfl) (argsL := [(.ref a1), (.int (0 : Int32)), (.int (3 : Int32))]) (rest := []) (lenOf pd_9 rfl) rfl (by show 2 * 0 + _ ≤ _; exact Nat.le_of_eq rfl) (hb hby d_jdk_52_method_16_23) (fun _ _ => ⟨rfl, e9, (by decide : 1 + 1 ≤ _), (by decide : 3 + 6 ≤ _)⟩)
  dsimp only [Pt.U, Pt.locs, Pt.cells, Pt.slots] at X10 l10 y10 z10 st10 hQ10
  have X10 := own_to X10 l10 y10 z10
  obtain ⟨x10_x1_b2, x10_x1_k2, rfl, N10q, K10, sz10_x1_b2, q10_0⟩ := hQ10
  have N10 := Fr.app N9 N10q
  have g11 : n0 ≤ x10_x1_b2 := Nat.le_trans (Nat.le_of_eq O5.1.symm) (Nat.le_trans O5.2.1 sz10_x1_b2)
  have s12 : h0.size ≤ x10_x1_b2 := Nat.le_trans K6.1 sz10_x1_b2
  have ne13 : a1 ≠ x10_x1_b2 := Nat.ne_of_lt (Nat.lt_of_lt_of_le t8.lt sz10_x1_b2)
  have ne14 : b1 ≠ x10_x1_b2 := Nat.ne_of_lt (Nat.lt_of_lt_of_le v7.lt sz10_x1_b2)
  have O15 : Old Z n0 T10.heap := Old.keep O5 K10 all0
  have K16 : Keep h0 T10.heap [] := K6.trans K10 all0
  obtain ⟨_, _, ⟨T17, L17, k17, n17⟩, -, X17, ⟨Lc17, hQ17, l17, y17, z17⟩, st17⟩ := Jvm.LawKit.callS X10 hx (y := my_10) hown (mvT hZ (wq hw 74 rfl)) (mvT hZ (wq hw 75 rfl)) (mvT hZ (wq hw 39 rfl)) (mvT hZ (wq hw 76 rfl)) (by decide) (backOf (W := 0) (rc74_getChar l Z a0 hw [] cs hS x10_x1_b2 x10_x1_k2 (nar .byte ((i3 >>> ((0 : Int32) &&& 31)).toInt8.toInt32)) (nar .byte ((i3 >>> ((8 : Int32) &&& 31)).toInt8.toInt32)) (nar .byte ((i4 >>> ((0 : Int32) &&& 31)).toInt8.toInt32)) (nar .byte ((i4 >>> ((8 : Int32) &&& 31)).toInt8.toInt32)) (nar .byte ((i5 >>> ((0 : Int32) &&& 31)).toInt8.toInt32)) (nar .byte ((i5 >>> ((8 : Int32) &&& 31)).toInt8.toInt32)) T10.heap n0 O15 g11 q10_0) hZ (wq hw 76 rfl) (wq hw 39 rfl) (by decide) (by decide)) (g := (mkF m 32 #[.val (.ref a1), .val (.int (0 : Int32)), .val (.int (3 : Int32)), .val (.ref b1), .val (.int (0 : Int32)), .val (.ref x10_x1_b2)] [(.int (0 : Int32)), (.ref x10_x1_b2)])) rfl (by rw [hml]; rfl) (argsL := [(.ref x10_x1_b2), (.int (0 : Int32))]) (rest := []) (lenOf pd_10 rfl) rfl (by show 2 * 0 + _ ≤ _; exact Nat.le_of_eq rfl) (hb hby d_jdk_52_method_16_32) (fun _ _ => ⟨rfl, rfl, (by decide : 2 + 0 ≤ _), (by decide : 9 + 0 ≤ _)⟩)
  dsimp only [Pt.U, Pt.locs, Pt.cells, Pt.slots] at X17 l17 y17 z17 st17 hQ17
  have X17 := own_to X17 l17 y17 z17
  obtain ⟨rfl, N17q, e17⟩ := hQ17
  have N17 := Fr.app N10 N17q
  obtain ⟨fs, hr, hrun, hended, hW, hsame⟩ := X17.leave (v := (some (.ref x10_x1_b2))) (fun h => by rw [Bd.returns] at h; cases h)
  refine ⟨_, _, pre0 _ ?_, hrun, hended, _, _, rfl, ?_, ⟨_, rfl⟩, hW, hsame.mono (by decide) (by decide)⟩
  · refine XS.iloadN X0.here hx rfl (hb hby d_jdk_52_method_16_0) rfl ?_
    refine st1 _ ?_
    refine XS.astoreN X1.here hx rfl (hb hby d_jdk_52_method_16_3) rfl rfl (l' := #[.val (.ref a1), .val (.int (0 : Int32)), .val (.int (3 : Int32)), .val (.ref b1), .unset, .unset]) rfl ?_
    refine XS.aloadN X1.here hx rfl (hb hby d_jdk_52_method_16_4) rfl rfl ?_
    refine XS.iloadN X1.here hx rfl (hb hby d_jdk_52_method_16_5) rfl ?_
    refine XS.aloadN X1.here hx rfl (hb hby d_jdk_52_method_16_6) rfl rfl ?_
    refine XS.iconst X1.here hx rfl (hb hby d_jdk_52_method_16_7) ?_
    refine XS.iloadN X1.here hx rfl (hb hby d_jdk_52_method_16_8) rfl ?_
    refine st9 _ ?_
    refine XS.istore X9.here hx rfl (hb hby d_jdk_52_method_16_12) rfl (l' := #[.val (.ref a1), .val (.int (0 : Int32)), .val (.int (3 : Int32)), .val (.ref b1), .val (.int (0 : Int32)), .unset]) rfl ?_
    refine XS.iload X9.here hx rfl (hb hby d_jdk_52_method_16_14) rfl ?_
    refine XS.iloadN X9.here hx rfl (hb hby d_jdk_52_method_16_16) rfl ?_
    refine XS.icmpNo X9.here hx rfl (hb hby d_jdk_52_method_16_17) rfl (feq (by decide : ¬ ((0 : Int32) = (3 : Int32)))).1 ?_
    refine XS.aloadN X9.here hx rfl (hb hby d_jdk_52_method_16_20) rfl rfl ?_
    refine XS.iloadN X9.here hx rfl (hb hby d_jdk_52_method_16_21) rfl ?_
    refine XS.iloadN X9.here hx rfl (hb hby d_jdk_52_method_16_22) rfl ?_
    refine st10 _ ?_
    refine XS.astore X10.here hx rfl (hb hby d_jdk_52_method_16_26) rfl rfl (l' := #[.val (.ref a1), .val (.int (0 : Int32)), .val (.int (3 : Int32)), .val (.ref b1), .val (.int (0 : Int32)), .val (.ref x10_x1_b2)]) rfl ?_
    refine XS.aload X10.here hx rfl (hb hby d_jdk_52_method_16_28) rfl rfl ?_
    refine XS.iload X10.here hx rfl (hb hby d_jdk_52_method_16_30) rfl ?_
    refine st17 _ ?_
    refine XS.sipush X17.here hx rfl (hb hby d_jdk_52_method_16_35) ?_
    refine XS.icmpYes X17.here hx rfl (pc0 := 38) (pc' := 54) rfl (hb hby d_jdk_52_method_16_38) rfl (tlt (own_getc hy0 hy3)).2.2.1 (by decide) (by decide) ?_
    refine XS.aload X17.here hx rfl (hb hby d_jdk_52_method_16_54) rfl rfl ?_
    exact retOut X17 hx Bd.returns rfl (Or.inr (Or.inr (Or.inr (Or.inr ⟨rfl, rfl, rfl⟩)))) (hb hby d_jdk_52_method_16_56) hr
  · show Q_rc66_compress Z a1 k2 i3 i4 i5 h0 n0 _ T17.heap _
    rw [e17]
    exact ⟨x10_x1_b2, x10_x1_k2, rfl, N17, K16, s12, q10_0⟩
def Q_rc75_coderFromArrayLen (Z : State) (a1 : Addr) (k2 : ClassId) (i3 : Int32) (i4 : Int32) (i5 : Int32) (i6 : Int32) (i7 : Int32) (i8 : Int32) (h0 : Heap) (n0 : Nat) (v : Option Value) (h : Heap) (L : List Loc) : Prop := v = some (.int (1 : Int32)) ∧ Fr n0 L ∧ h = h0
set_option maxRecDepth 65536 in
set_option maxHeartbeats 40000000 in
theorem rc75_coderFromArrayLen (l : Launch) (Z : State) (a0 : Array Value) (hw : ∀ d ∈ tables_1, d.before a0 Z = true) (ws : List Jvm.Cond) (cs : Int32) (hS : SB Z cs) (a1 : Addr) (k2 : ClassId) (i3 : Int32) (i4 : Int32) (i5 : Int32) (i6 : Int32) (i7 : Int32) (i8 : Int32) (h0 : Heap) (n0 : Nat) (O0 : Old Z n0 h0) (g_a1 : n0 ≤ a1) (V_a1 : Arv Z h0 a1 k2 .byte (6 : Int32) [(.int i3), (.int i4), (.int i5), (.int i6), (.int i7), (.int i8)] (.int (0 : Int32))) :
    Met l my_12 jdk_52_method_15_code 2 (some .byte) ws ({ frames := 0, cells := 0, slots := 0, locals := 0 } : Room) #[(.ref a1), (.int (3 : Int32))] Z h0 (Q_rc75_coderFromArrayLen Z a1 k2 i3 i4 i5 i6 i7 i8 h0 n0) := by
  refine MetFree.of_bodySF (plainFor_of_name pn_3) hisR ?_
  intro p e s m args below meth c s₁ Bd hml0 hP hK
  obtain ⟨rfl, hZ, hh⟩ := hP
  have hx := Bd.exec
  have hby := Bd.bytes
  have hml : c.maxLocals = 2 := hml0
  have hown : s.vm.findClass nString_1 = some m.cls := findClass_of_methodNamed Bd.named
  have hnm := (name_of_methodNamed Bd.named Bd.method).1
  have X0 : Stand p l e ({ frames := 0, cells := 0, slots := 0, locals := 0 } : Room) s m #[(.ref a1), (.int (3 : Int32))] below meth c s₁ [] 0 0 := Stand.of_body Bd
  have e0 : s₁.heap = h0 := by rw [← hh, Bd.state]; rfl
  have N0 := Fr.nil n0
  obtain ⟨f₀, hf₀⟩ : ∃ f, f = entryFrame m #[(.ref a1), (.int (3 : Int32))] 2 := ⟨_, rfl⟩
  rw [← hf₀]
  have pre0 : Go p e below s₁ f₀ s₁ (mkF m 0 #[.val (.ref a1), .val (.int (3 : Int32))] []) := fun t k => castTop (hf₀.trans (ef_rc75_coderFromArrayLen m (a1) ((3 : Int32)))) k
  obtain ⟨c1, Ar1, q1, S1, M1, Hh1, G1⟩ := (id V_a1)
  obtain ⟨fs, hr, hrun, hended, hW, hsame⟩ := X0.leave (v := (some (.int (1 : Int32)))) (fun h => by rw [Bd.returns] at h; cases h)
  refine ⟨_, _, pre0 _ ?_, hrun, hended, _, _, rfl, ?_, ⟨_, rfl⟩, hW, hsame.mono (by decide) (by decide)⟩
  · refine XS.iloadN X0.here hx rfl (hb hby d_jdk_52_method_15_0) rfl ?_
    refine XS.aloadN X0.here hx rfl (hb hby d_jdk_52_method_15_1) rfl rfl ?_
    refine X0.arraylength hx (by rw [e0]; exact Ar1.1) (State.isArrayOf_alike hZ.alike Ar1.2.1) (g := (mkF m 2 #[.val (.ref a1), .val (.int (3 : Int32))] [(.ref a1), (.int (3 : Int32))])) rfl rfl (hb hby d_jdk_52_method_15_2) _ ?_
    rw [len_of S1 M1]
    refine XS.isub X0.here hx rfl (hb hby d_jdk_52_method_15_3) rfl ?_
    show Steps p.tables e below (s₁.setTop (mkF m 4 #[.val (.ref a1), .val (.int (3 : Int32))] [(.int (-3 : Int32))])) _
    refine XS.bipush X0.here hx rfl (hb hby d_jdk_52_method_15_4) ?_
    refine XS.iushr X0.here hx rfl (hb hby d_jdk_52_method_15_6) rfl ?_
    show Steps p.tables e below (s₁.setTop (mkF m 7 #[.val (.ref a1), .val (.int (3 : Int32))] [(.int (1 : Int32))])) _
    refine XS.i2b X0.here hx rfl (hb hby d_jdk_52_method_15_7) rfl ?_
    show Steps p.tables e below (s₁.setTop (mkF m 8 #[.val (.ref a1), .val (.int (3 : Int32))] [(.int (1 : Int32))])) _
    exact retN X0 hx (t := .byte) Bd.returns (by simp) (hb hby d_jdk_52_method_15_8) hr
  · show Q_rc75_coderFromArrayLen Z a1 k2 i3 i4 i5 i6 i7 i8 h0 n0 _ s₁.heap _
    rw [e0]
    exact ⟨rfl, N0, rfl⟩
def Q_rc65_init (Z : State) (a1 : Addr) (a2 : Addr) (k3 : ClassId) (i4 : Int32) (i5 : Int32) (i6 : Int32) (h0 : Heap) (n0 : Nat) (v : Option Value) (h : Heap) (L : List Loc) : Prop := ∃ (x3_x10_x1_b2 : Addr), ∃ (x3_x10_x1_k2 : ClassId), v = none ∧ Fr n0 L ∧ Keep h0 h [a1] ∧ h0.size ≤ x3_x10_x1_b2 ∧ Exa Z h a1 nString_0 ∧ Fld Z h a1 nString_0 "coder" "B" (.int (1 : Int32)) ∧ Fld Z h a1 nString_0 "value" "[B" (.ref x3_x10_x1_b2) ∧ Arv Z h x3_x10_x1_b2 x3_x10_x1_k2 .byte (6 : Int32) [(.int (nar .byte ((i4 >>> ((0 : Int32) &&& 31)).toInt8.toInt32))), (.int (nar .byte ((i4 >>> ((8 : Int32) &&& 31)).toInt8.toInt32))), (.int (nar .byte ((i5 >>> ((0 : Int32) &&& 31)).toInt8.toInt32))), (.int (nar .byte ((i5 >>> ((8 : Int32) &&& 31)).toInt8.toInt32))), (.int (nar .byte ((i6 >>> ((0 : Int32) &&& 31)).toInt8.toInt32))), (.int (nar .byte ((i6 >>> ((8 : Int32) &&& 31)).toInt8.toInt32)))] (.int (0 : Int32))
set_option maxRecDepth 65536 in
set_option maxHeartbeats 40000000 in
theorem rc65_init (l : Launch) (Z : State) (a0 : Array Value) (hw : ∀ d ∈ tables_1, d.before a0 Z = true) (ws : List Jvm.Cond) (cs : Int32) (hS : SB Z cs) (a1 : Addr) (a2 : Addr) (k3 : ClassId) (i4 : Int32) (i5 : Int32) (i6 : Int32) (h0 : Heap) (n0 : Nat) (O0 : Old Z n0 h0) (g_a1 : n0 ≤ a1) (g_a2 : n0 ≤ a2) (E_a1 : Exa Z h0 a1 nString_0) (F_a1_coder : Fld Z h0 a1 nString_0 "coder" "B" (.int (0 : Int32))) (F_a1_value : Fld Z h0 a1 nString_0 "value" "[B" .null) (V_a2 : Arv Z h0 a2 k3 .char (3 : Int32) [(.int i4), (.int i5), (.int i6)] (.int (0 : Int32))) (hy0 : nar .char i4 = i4) (hy3 : (255 : Int32) < i4) :
    Met l my_1 jdk_42_method_149_code 6 none ws ({ frames := 4, cells := 2, slots := 9, locals := 57 } : Room) #[(.ref a1), (.ref a2), (.int (0 : Int32)), (.int (3 : Int32)), .null] Z h0 (Q_rc65_init Z a1 a2 k3 i4 i5 i6 h0 n0) := by
  refine MetFree.of_bodySF (plainFor_of_name pn_1) hisR ?_
  intro p e s m args below meth c s₁ Bd hml0 hP hK
  obtain ⟨rfl, hZ, hh⟩ := hP
  have hx := Bd.exec
  have hby := Bd.bytes
  have hml : c.maxLocals = 6 := hml0
  have hown : s.vm.findClass nString_0 = some m.cls := findClass_of_methodNamed Bd.named
  have hnm := (name_of_methodNamed Bd.named Bd.method).1
  have X0 : Stand p l e ({ frames := 4, cells := 2, slots := 9, locals := 57 } : Room) s m #[(.ref a1), (.ref a2), (.int (0 : Int32)), (.int (3 : Int32)), .null] below meth c s₁ [] 0 0 := Stand.of_body Bd
  have e0 : s₁.heap = h0 := by rw [← hh, Bd.state]; rfl
  have N0 := Fr.nil n0
  obtain ⟨f₀, hf₀⟩ : ∃ f, f = entryFrame m #[(.ref a1), (.ref a2), (.int (0 : Int32)), (.int (3 : Int32)), .null] 6 := ⟨_, rfl⟩
  rw [← hf₀]
  have pre0 : Go p e below s₁ f₀ s₁ (mkF m 0 #[.val (.ref a1), .val (.ref a2), .val (.int (0 : Int32)), .val (.int (3 : Int32)), .val .null, .unset] []) := fun t k => castTop (hf₀.trans (ef_rc65_init m (a1) (a2) ((0 : Int32)) ((3 : Int32)))) k
  obtain ⟨T1, X1, e1, st1⟩ := initO X0 hx hZ hown (wq hw 16 rfl) (wq hw 17 rfl) (wq hw 18 rfl) e0 (g := (mkF m 1 #[.val (.ref a1), .val (.ref a2), .val (.int (0 : Int32)), .val (.int (3 : Int32)), .val .null, .unset] [(.ref a1)])) rfl (by rw [hml]; rfl) rfl (hb hby d_jdk_42_method_149_1) (by decide) (W := 0) (by show 2 * 0 + _ ≤ _; exact Nat.le_of_eq rfl) (by decide)
  obtain ⟨T2, X2, e2, st2⟩ := getS2 X1 hx hZ hown (host := "") (Or.inl (wq hw 36 rfl)) Via.refl e1 (hS.1.ext O0.2) (g := (mkF m 27 #[.val (.ref a1), .val (.ref a2), .val (.int (0 : Int32)), .val (.int (3 : Int32)), .val .null, .unset] [])) rfl (hb hby d_jdk_42_method_149_27)
  obtain ⟨_, _, ⟨T3, L3, k3, n3⟩, -, X3, ⟨Lc3, hQ3, l3, y3, z3⟩, st3⟩ := Jvm.LawKit.callS X2 hx (y := my_11) hown (mvT hZ (wq hw 37 rfl)) (mvT hZ (wq hw 38 rfl)) (mvT hZ (wq hw 39 rfl)) (mvT hZ (wq hw 40 rfl)) (by decide) (backOf (W := 0) (rc66_compress l Z a0 hw [] cs hS a2 k3 i4 i5 i6 h0 n0 O0 g_a2 V_a2 hy0 hy3) hZ (wq hw 40 rfl) (wq hw 39 rfl) (by decide) (by decide)) (g := (mkF m 36 #[.val (.ref a1), .val (.ref a2), .val (.int (0 : Int32)), .val (.int (3 : Int32)), .val .null, .unset] [(.int (3 : Int32)), (.int (0 : Int32)), (.ref a2)])) rfl (by rw [hml]; rfl) (argsL := [(.ref a2), (.int (0 : Int32)), (.int (3 : Int32))]) (rest := []) (lenOf pd_9 rfl) rfl (by show 2 * 0 + _ ≤ _; exact Nat.le_of_eq rfl) (hb hby d_jdk_42_method_149_36) (fun _ _ => ⟨rfl, e2, (by decide : 0 + 2 ≤ _), (by decide : 0 + 9 ≤ _)⟩)
  dsimp only [Pt.U, Pt.locs, Pt.cells, Pt.slots] at X3 l3 y3 z3 st3 hQ3
  have X3 := own_to X3 l3 y3 z3
  obtain ⟨x3_x10_x1_b2, x3_x10_x1_k2, rfl, N3q, K3, sz3_x10_x1_b2, q3_0⟩ := hQ3
  have N3 := Fr.app N0 N3q
  have g4 : n0 ≤ x3_x10_x1_b2 := Nat.le_trans (Nat.le_of_eq O0.1.symm) (Nat.le_trans O0.2.1 sz3_x10_x1_b2)
  have s5 : h0.size ≤ x3_x10_x1_b2 := Nat.le_trans (Keep.refl h0 [a1]).1 sz3_x10_x1_b2
  have ne6 : a1 ≠ x3_x10_x1_b2 := Nat.ne_of_lt (Nat.lt_of_lt_of_le E_a1.lt sz3_x10_x1_b2)
  have ne7 : a2 ≠ x3_x10_x1_b2 := Nat.ne_of_lt (Nat.lt_of_lt_of_le V_a2.lt sz3_x10_x1_b2)
  have O8 : Old Z n0 T3.heap := Old.keep O0 K3 all0
  have K9 : Keep h0 T3.heap [a1] := (Keep.refl h0 [a1]).trans K3 all0
  obtain ⟨_, _, ⟨T10, L10, k10, n10⟩, -, X10, ⟨Lc10, hQ10, l10, y10, z10⟩, st10⟩ := Jvm.LawKit.callS X3 hx (y := my_12) hown (mvT hZ (wq hw 44 rfl)) (mvT hZ (wq hw 45 rfl)) (mvT hZ (wq hw 39 rfl)) (mvT hZ (wq hw 46 rfl)) (by decide) (backOf (W := 1) (rc75_coderFromArrayLen l Z a0 hw [] cs hS x3_x10_x1_b2 x3_x10_x1_k2 (nar .byte ((i4 >>> ((0 : Int32) &&& 31)).toInt8.toInt32)) (nar .byte ((i4 >>> ((8 : Int32) &&& 31)).toInt8.toInt32)) (nar .byte ((i5 >>> ((0 : Int32) &&& 31)).toInt8.toInt32)) (nar .byte ((i5 >>> ((8 : Int32) &&& 31)).toInt8.toInt32)) (nar .byte ((i6 >>> ((0 : Int32) &&& 31)).toInt8.toInt32)) (nar .byte ((i6 >>> ((8 : Int32) &&& 31)).toInt8.toInt32)) T3.heap n0 O8 g4 q3_0) hZ (wq hw 46 rfl) (wq hw 39 rfl) (by decide) (by decide)) (g := (mkF m 45 #[.val (.ref a1), .val (.ref a2), .val (.int (0 : Int32)), .val (.int (3 : Int32)), .val .null, .val (.ref x3_x10_x1_b2)] [(.int (3 : Int32)), (.ref x3_x10_x1_b2), (.ref a1)])) rfl (by rw [hml]; rfl) (argsL := [(.ref x3_x10_x1_b2), (.int (3 : Int32))]) (rest := [(.ref a1)]) (lenOf pd_11 rfl) rfl (by show 2 * 0 + _ ≤ _; exact Nat.le_of_eq rfl) (hb hby d_jdk_42_method_149_45) (fun _ _ => ⟨rfl, rfl, (by decide : 2 + 0 ≤ _), (by decide : 9 + 0 ≤ _)⟩)
  dsimp only [Pt.U, Pt.locs, Pt.cells, Pt.slots] at X10 l10 y10 z10 st10 hQ10
  have X10 := own_to X10 l10 y10 z10
  obtain ⟨rfl, N10q, e10⟩ := hQ10
  have N10 := Fr.app N3 N10q
  have t11 : Exa Z T3.heap a1 nString_0 := (E_a1.keep K3)
  have t12 : Fld Z T3.heap a1 nString_0 "coder" "B" (.int (0 : Int32)) := (F_a1_coder.keep K3 nin0)
  obtain ⟨T13, h13, X13, e13, W13, st13⟩ := putFN X10 hx hZ hown (wq hw 26 rfl) Via.refl e10 t12 t11 (Or.inr ⟨(wq hw 22 rfl), rfl, hnm⟩) (wq hw 6 rfl) (ty := .byte) (v' := (.int (1 : Int32))) (by decide) rfl (by decide +kernel) (g := (mkF m 48 #[.val (.ref a1), .val (.ref a2), .val (.int (0 : Int32)), .val (.int (3 : Int32)), .val .null, .val (.ref x3_x10_x1_b2)] [(.int (1 : Int32)), (.ref a1)])) rfl rfl (hb hby d_jdk_42_method_149_48)
  have f14 : Fld Z h13 a1 nString_0 "coder" "B" (.int (1 : Int32)) := t12.same W13
  have N13 := Fr.snoc X13 N10 g_a1
  have O15 : Old Z n0 h13 := Old.wr O8 W13 g_a1
  have K16 : Keep h0 h13 [a1] := K9.wr W13 (Or.inl (List.mem_of_getElem? (i := 0) rfl))
  have t17 : Exa Z h13 a1 nString_0 := (t11.wr W13)
  have t18 : Fld Z h13 a1 nString_0 "value" "[B" .null := ((F_a1_value.keep K3 nin0).other W13 (Or.inr (slot_ne (Or.inr (wq hw 21 rfl)) (Or.inr (wq hw 22 rfl)) (by decide) (t := (.array .byte)) (t' := .byte) (by decide) (by decide))))
  obtain ⟨T19, h19, X19, e19, W19, st19⟩ := putF X13 hx hZ hown (host := "") (Or.inl (wq hw 25 rfl)) Via.refl e13 t18 t17 (Or.inr ⟨(wq hw 21 rfl), rfl, hnm⟩) (wq hw 6 rfl) (ty := (.array .byte)) (by decide) rfl rfl (g := (mkF m 54 #[.val (.ref a1), .val (.ref a2), .val (.int (0 : Int32)), .val (.int (3 : Int32)), .val .null, .val (.ref x3_x10_x1_b2)] [(.ref x3_x10_x1_b2), (.ref a1)])) rfl rfl (hb hby d_jdk_42_method_149_54)
  have f20 : Fld Z h19 a1 nString_0 "value" "[B" (.ref x3_x10_x1_b2) := t18.same W19
  have N19 := Fr.snoc X19 N13 g_a1
  have O21 : Old Z n0 h19 := Old.wr O15 W19 g_a1
  have K22 : Keep h0 h19 [a1] := K16.wr W19 (Or.inl (List.mem_of_getElem? (i := 0) rfl))
  have t23 : Exa Z h19 a1 nString_0 := (t17.wr W19)
  have t24 : Fld Z h19 a1 nString_0 "coder" "B" (.int (1 : Int32)) := (f14.other W19 (Or.inr (slot_ne (Or.inr (wq hw 22 rfl)) (Or.inr (wq hw 21 rfl)) (by decide) (t := .byte) (t' := (.array .byte)) (by decide) (by decide))))
  have t25 : Arv Z h19 x3_x10_x1_b2 x3_x10_x1_k2 .byte (6 : Int32) [(.int (nar .byte ((i4 >>> ((0 : Int32) &&& 31)).toInt8.toInt32))), (.int (nar .byte ((i4 >>> ((8 : Int32) &&& 31)).toInt8.toInt32))), (.int (nar .byte ((i5 >>> ((0 : Int32) &&& 31)).toInt8.toInt32))), (.int (nar .byte ((i5 >>> ((8 : Int32) &&& 31)).toInt8.toInt32))), (.int (nar .byte ((i6 >>> ((0 : Int32) &&& 31)).toInt8.toInt32))), (.int (nar .byte ((i6 >>> ((8 : Int32) &&& 31)).toInt8.toInt32)))] (.int (0 : Int32)) := ((q3_0.other W13 (Ne.symm ne6)).other W19 (Ne.symm ne6))
  obtain ⟨fs, hr, hrun, hended, hW, hsame⟩ := X19.leave (v := none) (fun _ => rfl)
  refine ⟨_, _, pre0 _ ?_, hrun, hended, _, _, rfl, ?_, ⟨_, rfl⟩, hW, hsame.mono (by decide) (by decide)⟩
  · refine XS.aloadN X0.here hx rfl (hb hby d_jdk_42_method_149_0) rfl rfl ?_
    refine st1 _ ?_
    refine XS.iloadN X1.here hx rfl (hb hby d_jdk_42_method_149_4) rfl ?_
    refine XS.ifYes X1.here hx rfl (pc0 := 5) (pc' := 27) rfl (hb hby d_jdk_42_method_149_5) rfl ((if0 _ _).trans (feq (by decide : ¬ ((3 : Int32) = (0 : Int32)))).2) (by decide) (by decide) ?_
    refine st2 _ ?_
    refine XS.ifNo X2.here hx rfl (hb hby d_jdk_42_method_149_30) rfl ((if0 _ _).trans (feq hS.2.1).1) ?_
    refine XS.aloadN X2.here hx rfl (hb hby d_jdk_42_method_149_33) rfl rfl ?_
    refine XS.iloadN X2.here hx rfl (hb hby d_jdk_42_method_149_34) rfl ?_
    refine XS.iloadN X2.here hx rfl (hb hby d_jdk_42_method_149_35) rfl ?_
    refine st3 _ ?_
    refine XS.astore X3.here hx rfl (hb hby d_jdk_42_method_149_39) rfl rfl (l' := #[.val (.ref a1), .val (.ref a2), .val (.int (0 : Int32)), .val (.int (3 : Int32)), .val .null, .val (.ref x3_x10_x1_b2)]) rfl ?_
    refine XS.aloadN X3.here hx rfl (hb hby d_jdk_42_method_149_41) rfl rfl ?_
    refine XS.aload X3.here hx rfl (hb hby d_jdk_42_method_149_42) rfl rfl ?_
    refine XS.iloadN X3.here hx rfl (hb hby d_jdk_42_method_149_44) rfl ?_
    refine st10 _ ?_
    refine st13 _ ?_
    refine XS.aloadN X13.here hx rfl (hb hby d_jdk_42_method_149_51) rfl rfl ?_
    refine XS.aload X13.here hx rfl (hb hby d_jdk_42_method_149_52) rfl rfl ?_
    refine st19 _ ?_
    exact X19.returnOut hx Bd.returns (hb hby d_jdk_42_method_149_57) hr
  · show Q_rc65_init Z a1 a2 k3 i4 i5 i6 h0 n0 _ T19.heap _
    rw [e19]
    exact ⟨x3_x10_x1_b2, x3_x10_x1_k2, rfl, N19, K22, s5, t23, t24, f20, t25⟩
def Q_rc64_init (Z : State) (a1 : Addr) (a2 : Addr) (k3 : ClassId) (i4 : Int32) (i5 : Int32) (i6 : Int32) (h0 : Heap) (n0 : Nat) (v : Option Value) (h : Heap) (L : List Loc) : Prop := ∃ (x2_x3_x10_x1_b2 : Addr), ∃ (x2_x3_x10_x1_k2 : ClassId), v = none ∧ Fr n0 L ∧ Keep h0 h [a1] ∧ h0.size ≤ x2_x3_x10_x1_b2 ∧ Exa Z h a1 nString_0 ∧ Fld Z h a1 nString_0 "coder" "B" (.int (1 : Int32)) ∧ Fld Z h a1 nString_0 "value" "[B" (.ref x2_x3_x10_x1_b2) ∧ Arv Z h x2_x3_x10_x1_b2 x2_x3_x10_x1_k2 .byte (6 : Int32) [(.int (nar .byte ((i4 >>> ((0 : Int32) &&& 31)).toInt8.toInt32))), (.int (nar .byte ((i4 >>> ((8 : Int32) &&& 31)).toInt8.toInt32))), (.int (nar .byte ((i5 >>> ((0 : Int32) &&& 31)).toInt8.toInt32))), (.int (nar .byte ((i5 >>> ((8 : Int32) &&& 31)).toInt8.toInt32))), (.int (nar .byte ((i6 >>> ((0 : Int32) &&& 31)).toInt8.toInt32))), (.int (nar .byte ((i6 >>> ((8 : Int32) &&& 31)).toInt8.toInt32)))] (.int (0 : Int32))
set_option maxRecDepth 65536 in
set_option maxHeartbeats 40000000 in
theorem rc64_init (l : Launch) (Z : State) (a0 : Array Value) (hw : ∀ d ∈ tables_1, d.before a0 Z = true) (ws : List Jvm.Cond) (cs : Int32) (hS : SB Z cs) (a1 : Addr) (a2 : Addr) (k3 : ClassId) (i4 : Int32) (i5 : Int32) (i6 : Int32) (h0 : Heap) (n0 : Nat) (O0 : Old Z n0 h0) (g_a1 : n0 ≤ a1) (g_a2 : n0 ≤ a2) (E_a1 : Exa Z h0 a1 nString_0) (F_a1_coder : Fld Z h0 a1 nString_0 "coder" "B" (.int (0 : Int32))) (F_a1_value : Fld Z h0 a1 nString_0 "value" "[B" .null) (V_a2 : Arv Z h0 a2 k3 .char (3 : Int32) [(.int i4), (.int i5), (.int i6)] (.int (0 : Int32))) (hy0 : nar .char i4 = i4) (hy3 : (255 : Int32) < i4) :
    Met l my_2 jdk_42_method_3_code 2 none ws ({ frames := 5, cells := 2, slots := 9, locals := 74 } : Room) #[(.ref a1), (.ref a2)] Z h0 (Q_rc64_init Z a1 a2 k3 i4 i5 i6 h0 n0) := by
  refine MetFree.of_bodySF (plainFor_of_name pn_1) hisR ?_
  intro p e s m args below meth c s₁ Bd hml0 hP hK
  obtain ⟨rfl, hZ, hh⟩ := hP
  have hx := Bd.exec
  have hby := Bd.bytes
  have hml : c.maxLocals = 2 := hml0
  have hown : s.vm.findClass nString_0 = some m.cls := findClass_of_methodNamed Bd.named
  have hnm := (name_of_methodNamed Bd.named Bd.method).1
  have X0 : Stand p l e ({ frames := 5, cells := 2, slots := 9, locals := 74 } : Room) s m #[(.ref a1), (.ref a2)] below meth c s₁ [] 0 0 := Stand.of_body Bd
  have e0 : s₁.heap = h0 := by rw [← hh, Bd.state]; rfl
  have N0 := Fr.nil n0
  obtain ⟨f₀, hf₀⟩ : ∃ f, f = entryFrame m #[(.ref a1), (.ref a2)] 2 := ⟨_, rfl⟩
  rw [← hf₀]
  have pre0 : Go p e below s₁ f₀ s₁ (mkF m 0 #[.val (.ref a1), .val (.ref a2)] []) := fun t k => castTop (hf₀.trans (ef_rc64_init m (a1) (a2))) k
  obtain ⟨c1, Ar1, q1, S1, M1, Hh1, G1⟩ := (id V_a2)
  obtain ⟨_, _, ⟨T2, L2, k2, n2⟩, -, X2, ⟨Lc2, hQ2, l2, y2, z2⟩, st2⟩ := X0.specialBack hx (y := my_1) rfl hown (mvT hZ (wq hw 12 rfl)) (mvT hZ (wq hw 13 rfl)) (mvT hZ (wq hw 15 rfl)) (by decide) (backOf (W := 0) (rc65_init l Z a0 hw [] cs hS a1 a2 k3 i4 i5 i6 h0 n0 O0 g_a1 g_a2 E_a1 F_a1_coder F_a1_value V_a2 hy0 hy3) hZ (wq hw 15 rfl) (wq hw 7 rfl) (by decide) (by decide)) (g := (mkF m 6 #[.val (.ref a1), .val (.ref a2)] [.null, (.int (3 : Int32)), (.int (0 : Int32)), (.ref a2), (.ref a1)])) rfl (by rw [hml]; rfl) (Steps.refl _) (a := a1) (argsL := [(.ref a2), (.int (0 : Int32)), (.int (3 : Int32)), .null]) (rest := []) (lenOf pd_1 rfl) rfl (by show 2 * 0 + _ ≤ _; exact Nat.le_of_eq rfl) (hb hby d_jdk_42_method_3_6) (fun _ _ => ⟨rfl, e0, (by decide : 0 + 2 ≤ _), (by decide : 0 + 9 ≤ _)⟩)
  dsimp only [Pt.U, Pt.locs, Pt.cells, Pt.slots] at X2 l2 y2 z2 st2 hQ2
  have X2 := own_to X2 l2 y2 z2
  obtain ⟨x2_x3_x10_x1_b2, x2_x3_x10_x1_k2, rfl, N2q, K2, sz2_x3_x10_x1_b2, q2_0, q2_1, q2_2, q2_3⟩ := hQ2
  have N2 := Fr.app N0 N2q
  have g3 : n0 ≤ x2_x3_x10_x1_b2 := Nat.le_trans (Nat.le_of_eq O0.1.symm) (Nat.le_trans O0.2.1 sz2_x3_x10_x1_b2)
  have s4 : h0.size ≤ x2_x3_x10_x1_b2 := Nat.le_trans (Keep.refl h0 [a1]).1 sz2_x3_x10_x1_b2
  have ne5 : a1 ≠ x2_x3_x10_x1_b2 := Nat.ne_of_lt (Nat.lt_of_lt_of_le E_a1.lt sz2_x3_x10_x1_b2)
  have ne6 : a2 ≠ x2_x3_x10_x1_b2 := Nat.ne_of_lt (Nat.lt_of_lt_of_le V_a2.lt sz2_x3_x10_x1_b2)
  have O7 : Old Z n0 T2.heap := Old.keep O0 K2 (allS g_a1 all0)
  have K8 : Keep h0 T2.heap [a1] := (Keep.refl h0 [a1]).trans K2 (allS (Or.inl (List.mem_of_getElem? (i := 0) rfl)) all0)
  obtain ⟨fs, hr, hrun, hended, hW, hsame⟩ := X2.leave (v := none) (fun _ => rfl)
  refine ⟨_, _, pre0 _ ?_, hrun, hended, _, _, rfl, ?_, ⟨_, rfl⟩, hW, hsame.mono (by decide) (by decide)⟩
  · refine XS.aloadN X0.here hx rfl (hb hby d_jdk_42_method_3_0) rfl rfl ?_
    refine XS.aloadN X0.here hx rfl (hb hby d_jdk_42_method_3_1) rfl rfl ?_
    refine XS.iconst X0.here hx rfl (hb hby d_jdk_42_method_3_2) ?_
    refine XS.aloadN X0.here hx rfl (hb hby d_jdk_42_method_3_3) rfl rfl ?_
    refine X0.arraylength hx (by rw [e0]; exact Ar1.1) (State.isArrayOf_alike hZ.alike Ar1.2.1) (g := (mkF m 4 #[.val (.ref a1), .val (.ref a2)] [(.ref a2), (.int (0 : Int32)), (.ref a2), (.ref a1)])) rfl rfl (hb hby d_jdk_42_method_3_4) _ ?_
    rw [len_of S1 M1]
    refine XS.aconstNull X0.here hx rfl (hb hby d_jdk_42_method_3_5) ?_
    refine st2.trans ?_
    exact X2.returnOut hx Bd.returns (hb hby d_jdk_42_method_3_9) hr
  · show Q_rc64_init Z a1 a2 k3 i4 i5 i6 h0 n0 _ T2.heap _
    exact ⟨x2_x3_x10_x1_b2, x2_x3_x10_x1_k2, rfl, N2, K8, s4, q2_0, q2_1, q2_2, q2_3⟩
def Q_rc63_make (Z : State) (i1 : Int32) (i2 : Int32) (i3 : Int32) (h0 : Heap) (n0 : Nat) (v : Option Value) (h : Heap) (L : List Loc) : Prop := ∃ (b1 : Addr), ∃ (x36_x2_x3_x10_x1_b2 : Addr), ∃ (x36_x2_x3_x10_x1_k2 : ClassId), v = some (.ref b1) ∧ Fr n0 L ∧ Keep h0 h [] ∧ h0.size ≤ b1 ∧ h0.size ≤ x36_x2_x3_x10_x1_b2 ∧ Exa Z h b1 nString_0 ∧ Fld Z h b1 nString_0 "coder" "B" (.int (1 : Int32)) ∧ Fld Z h b1 nString_0 "value" "[B" (.ref x36_x2_x3_x10_x1_b2) ∧ Arv Z h x36_x2_x3_x10_x1_b2 x36_x2_x3_x10_x1_k2 .byte (6 : Int32) [(.int (nar .byte ((i1 >>> ((0 : Int32) &&& 31)).toInt8.toInt32))), (.int (nar .byte ((i1 >>> ((8 : Int32) &&& 31)).toInt8.toInt32))), (.int (nar .byte ((i2 >>> ((0 : Int32) &&& 31)).toInt8.toInt32))), (.int (nar .byte ((i2 >>> ((8 : Int32) &&& 31)).toInt8.toInt32))), (.int (nar .byte ((i3 >>> ((0 : Int32) &&& 31)).toInt8.toInt32))), (.int (nar .byte ((i3 >>> ((8 : Int32) &&& 31)).toInt8.toInt32)))] (.int (0 : Int32))
set_option maxRecDepth 65536 in
set_option maxHeartbeats 40000000 in
theorem rc63_make (l : Launch) (Z : State) (a0 : Array Value) (hw : ∀ d ∈ tables_1, d.before a0 Z = true) (ws : List Jvm.Cond) (cs : Int32) (hS : SB Z cs) (i1 : Int32) (i2 : Int32) (i3 : Int32) (h0 : Heap) (n0 : Nat) (O0 : Old Z n0 h0) (hy0 : nar .char i1 = i1) (hy1 : nar .char i2 = i2) (hy2 : nar .char i3 = i3) (hy3 : (255 : Int32) < i1) :
    Met l my_3 method_2_code 4 (some (.object nString_0)) ws ({ frames := 6, cells := 4, slots := 16, locals := 88 } : Room) #[(.int (3 : Int32)), (.int i1), (.int i2), (.int i3)] Z h0 (Q_rc63_make Z i1 i2 i3 h0 n0) := by
  refine MetFree.of_bodySF (plainFor_of_name pn_2) hisR ?_
  intro p e s m args below meth c s₁ Bd hml0 hP hK
  obtain ⟨rfl, hZ, hh⟩ := hP
  have hx := Bd.exec
  have hby := Bd.bytes
  have hml : c.maxLocals = 4 := hml0
  have hown : s.vm.findClass nUnfore_3 = some m.cls := findClass_of_methodNamed Bd.named
  have hnm := (name_of_methodNamed Bd.named Bd.method).1
  have X0 : Stand p l e ({ frames := 6, cells := 4, slots := 16, locals := 88 } : Room) s m #[(.int (3 : Int32)), (.int i1), (.int i2), (.int i3)] below meth c s₁ [] 0 0 := Stand.of_body Bd
  have e0 : s₁.heap = h0 := by rw [← hh, Bd.state]; rfl
  have N0 := Fr.nil n0
  obtain ⟨f₀, hf₀⟩ : ∃ f, f = entryFrame m #[(.int (3 : Int32)), (.int i1), (.int i2), (.int i3)] 4 := ⟨_, rfl⟩
  rw [← hf₀]
  have pre0 : Go p e below s₁ f₀ s₁ (mkF m 0 #[.val (.int (3 : Int32)), .val (.int i1), .val (.int i2), .val (.int i3)] []) := fun t k => castTop (hf₀.trans (ef_rc63_make m ((3 : Int32)) (i1) (i2) (i3))) k
  obtain ⟨T1, h1, X1, e1, E1, A1, D1, -, st1⟩ := newO X0 hx hZ hown (wq hw 5 rfl) (wq hw 6 rfl) (wq hw 7 rfl) e0 (g := (mkF m 59 #[.val (.int (3 : Int32)), .val (.int i1), .val (.int i2), .val (.int i3)] [])) rfl (hb hby d_method_2_59) (by decide) (by decide)
  obtain ⟨b1, gb1⟩ : ∃ z, z = h0.size := ⟨_, rfl⟩
  rw [← gb1] at A1 D1 st1
  have g2 : n0 ≤ b1 := Nat.le_trans (Nat.le_of_eq O0.1.symm) (Nat.le_trans O0.2.1 (Nat.le_of_eq gb1.symm))
  have s3 : h0.size ≤ b1 := Nat.le_trans (Keep.refl h0 []).1 (Nat.le_of_eq gb1.symm)
  have O4 : Old Z n0 h1 := Old.ext O0 E1
  have K5 : Keep h0 h1 [] := (Keep.refl h0 []).ext E1
  have f6 : Fld Z h1 b1 nString_0 "value" "[B" .null := D1 (Or.inr (wq hw 21 rfl)) (ty := (.array .byte)) (by decide)
  have f7 : Fld Z h1 b1 nString_0 "coder" "B" (.int (0 : Int32)) := D1 (Or.inr (wq hw 22 rfl)) (ty := .byte) (by decide)
  obtain ⟨T8, h8, k8, X8, e8, E8, A8, st8⟩ := newP X1 hx hZ (wq hw 8 rfl) e1 (g := (mkF m 64 #[.val (.int (3 : Int32)), .val (.int i1), .val (.int i2), .val (.int i3)] [(.int (3 : Int32)), (.ref b1), (.ref b1)])) rfl (hb hby d_method_2_64) rfl (by decide) (cap := 3) (by decide) (by decide) (by decide) (by decide)
  obtain ⟨b8, gb8⟩ : ∃ z, z = h1.size := ⟨_, rfl⟩
  rw [← gb8] at A8 st8
  have ne9 : b1 ≠ b8 := Nat.ne_of_lt (Nat.lt_of_lt_of_le A1.lt (Nat.le_of_eq gb8.symm))
  have g10 : n0 ≤ b8 := Nat.le_trans (Nat.le_of_eq O4.1.symm) (Nat.le_trans O4.2.1 (Nat.le_of_eq gb8.symm))
  have s11 : h0.size ≤ b8 := Nat.le_trans K5.1 (Nat.le_of_eq gb8.symm)
  have O12 : Old Z n0 h8 := Old.ext O4 E8
  have K13 : Keep h0 h8 [] := K5.ext E8
  have v14 : Arv Z h8 b8 k8 .char (3 : Int32) [(.int (0 : Int32)), (.int (0 : Int32)), (.int (0 : Int32))] (.int (0 : Int32)) := (Arv.new A8 (by decide)).pad (pad_rep [] (.int (0 : Int32)) 3)
  obtain ⟨c15, Ar15, q15, S15, M15, Hh15, G15⟩ := (id v14)
  have hin15 : ¬ ((0 : Int32) < 0 ∨ c15.slots.size ≤ ((0 : Int32)).toNatClampNeg) := inb_of S15 ⟨by decide, by decide⟩
  obtain ⟨T16, h16, X16, e16, W16, st16⟩ := stC X8 hx hZ e8 Ar15 (j := (0 : Int32)) hin15 (g := (mkF m 69 #[.val (.int (3 : Int32)), .val (.int i1), .val (.int i2), .val (.int i3)] [(.int i1), (.int (0 : Int32)), (.ref b8), (.ref b8), (.ref b1), (.ref b1)])) rfl rfl (hb hby d_method_2_69)
  have v17 : Arv Z h16 b8 k8 .char (3 : Int32) [(.int (nar .char i1)), (.int (0 : Int32)), (.int (0 : Int32))] (.int (0 : Int32)) := Arv.set Ar15 q15 S15 M15 Hh15 G15 (fits_nar_char _) W16 0 rfl (Nat.le_of_ble_eq_true rfl)
  have v18 : Arv Z h16 b8 k8 .char (3 : Int32) [(.int i1), (.int (0 : Int32)), (.int (0 : Int32))] (.int (0 : Int32)) := by rw [hy0] at v17; exact v17
  have N16 := Fr.snoc X16 N0 g10
  have O19 : Old Z n0 h16 := Old.wr O12 W16 g10
  have K20 : Keep h0 h16 [] := K13.wr W16 (Or.inr s11)
  obtain ⟨c21, Ar21, q21, S21, M21, Hh21, G21⟩ := (id v18)
  have hin21 : ¬ ((1 : Int32) < 0 ∨ c21.slots.size ≤ ((1 : Int32)).toNatClampNeg) := inb_of S21 ⟨by decide, by decide⟩
  obtain ⟨T22, h22, X22, e22, W22, st22⟩ := stC X16 hx hZ e16 Ar21 (j := (1 : Int32)) hin21 (g := (mkF m 73 #[.val (.int (3 : Int32)), .val (.int i1), .val (.int i2), .val (.int i3)] [(.int i2), (.int (1 : Int32)), (.ref b8), (.ref b8), (.ref b1), (.ref b1)])) rfl rfl (hb hby d_method_2_73)
  have v23 : Arv Z h22 b8 k8 .char (3 : Int32) [(.int i1), (.int (nar .char i2)), (.int (0 : Int32))] (.int (0 : Int32)) := Arv.set Ar21 q21 S21 M21 Hh21 G21 (fits_nar_char _) W22 1 rfl (Nat.le_of_ble_eq_true rfl)
  have v24 : Arv Z h22 b8 k8 .char (3 : Int32) [(.int i1), (.int i2), (.int (0 : Int32))] (.int (0 : Int32)) := by rw [hy1] at v23; exact v23
  have N22 := Fr.snoc X22 N16 g10
  have O25 : Old Z n0 h22 := Old.wr O19 W22 g10
  have K26 : Keep h0 h22 [] := K20.wr W22 (Or.inr s11)
  obtain ⟨c27, Ar27, q27, S27, M27, Hh27, G27⟩ := (id v24)
  have hin27 : ¬ ((2 : Int32) < 0 ∨ c27.slots.size ≤ ((2 : Int32)).toNatClampNeg) := inb_of S27 ⟨by decide, by decide⟩
  obtain ⟨T28, h28, X28, e28, W28, st28⟩ := stC X22 hx hZ e22 Ar27 (j := (2 : Int32)) hin27 (g := (mkF m 77 #[.val (.int (3 : Int32)), .val (.int i1), .val (.int i2), .val (.int i3)] [(.int i3), (.int (2 : Int32)), (.ref b8), (.ref b8), (.ref b1), (.ref b1)])) rfl rfl (hb hby d_method_2_77)
  have v29 : Arv Z h28 b8 k8 .char (3 : Int32) [(.int i1), (.int i2), (.int (nar .char i3))] (.int (0 : Int32)) := Arv.set Ar27 q27 S27 M27 Hh27 G27 (fits_nar_char _) W28 2 rfl (Nat.le_of_ble_eq_true rfl)
  have v30 : Arv Z h28 b8 k8 .char (3 : Int32) [(.int i1), (.int i2), (.int i3)] (.int (0 : Int32)) := by rw [hy2] at v29; exact v29
  have N28 := Fr.snoc X28 N22 g10
  have O31 : Old Z n0 h28 := Old.wr O25 W28 g10
  have K32 : Keep h0 h28 [] := K26.wr W28 (Or.inr s11)
  have t33 : Exa Z h28 b1 nString_0 := ((((A1.ext E8).wr W16).wr W22).wr W28)
  have t34 : Fld Z h28 b1 nString_0 "coder" "B" (.int (0 : Int32)) := ((((f7.ext E8).other W16 (Or.inl ne9)).other W22 (Or.inl ne9)).other W28 (Or.inl ne9))
  have t35 : Fld Z h28 b1 nString_0 "value" "[B" .null := ((((f6.ext E8).other W16 (Or.inl ne9)).other W22 (Or.inl ne9)).other W28 (Or.inl ne9))
  obtain ⟨_, _, ⟨T36, L36, k36, n36⟩, -, X36, ⟨Lc36, hQ36, l36, y36, z36⟩, st36⟩ := X28.specialBack hx (y := my_2) rfl hown (mvT hZ (wq hw 9 rfl)) (mvT hZ (wq hw 10 rfl)) (mvT hZ (wq hw 11 rfl)) (by decide) (backOf (W := 1) (rc64_init l Z a0 hw [] cs hS b1 b8 k8 i1 i2 i3 h28 n0 O31 g2 g10 t33 t34 t35 v30 hy0 hy3) hZ (wq hw 11 rfl) (wq hw 7 rfl) (by decide) (by decide)) (g := (mkF m 78 #[.val (.int (3 : Int32)), .val (.int i1), .val (.int i2), .val (.int i3)] [(.ref b8), (.ref b1), (.ref b1)])) rfl (by rw [hml]; rfl) (Steps.refl _) (a := b1) (argsL := [(.ref b8)]) (rest := [(.ref b1)]) (lenOf pd_2 rfl) rfl (by show 2 * 0 + _ ≤ _; exact Nat.le_of_eq rfl) (hb hby d_method_2_78) (fun _ _ => ⟨rfl, e28, (by decide : 2 + 2 ≤ _), (by decide : 7 + 9 ≤ _)⟩)
  dsimp only [Pt.U, Pt.locs, Pt.cells, Pt.slots] at X36 l36 y36 z36 st36 hQ36
  have X36 := own_to X36 l36 y36 z36
  obtain ⟨x36_x2_x3_x10_x1_b2, x36_x2_x3_x10_x1_k2, rfl, N36q, K36, sz36_x2_x3_x10_x1_b2, q36_0, q36_1, q36_2, q36_3⟩ := hQ36
  have N36 := Fr.app N28 N36q
  have g37 : n0 ≤ x36_x2_x3_x10_x1_b2 := Nat.le_trans (Nat.le_of_eq O31.1.symm) (Nat.le_trans O31.2.1 sz36_x2_x3_x10_x1_b2)
  have s38 : h0.size ≤ x36_x2_x3_x10_x1_b2 := Nat.le_trans K32.1 sz36_x2_x3_x10_x1_b2
  have ne39 : b1 ≠ x36_x2_x3_x10_x1_b2 := Nat.ne_of_lt (Nat.lt_of_lt_of_le t33.lt sz36_x2_x3_x10_x1_b2)
  have ne40 : b8 ≠ x36_x2_x3_x10_x1_b2 := Nat.ne_of_lt (Nat.lt_of_lt_of_le v30.lt sz36_x2_x3_x10_x1_b2)
  have O41 : Old Z n0 T36.heap := Old.keep O31 K36 (allS g2 all0)
  have K42 : Keep h0 T36.heap [] := K32.trans K36 (allS (Or.inr s3) all0)
  obtain ⟨fs, hr, hrun, hended, hW, hsame⟩ := X36.leave (v := (some (.ref b1))) (fun h => by rw [Bd.returns] at h; cases h)
  refine ⟨_, _, pre0 _ ?_, hrun, hended, _, _, rfl, ?_, ⟨_, rfl⟩, hW, hsame.mono (by decide) (by decide)⟩
  · refine XS.iloadN X0.here hx rfl (hb hby d_method_2_0) rfl ?_
    refine XS.ifYes X0.here hx rfl (pc0 := 1) (pc' := 15) rfl (hb hby d_method_2_1) rfl ((if0 _ _).trans (feq (by decide : ¬ ((3 : Int32) = (0 : Int32)))).2) (by decide) (by decide) ?_
    refine XS.iloadN X0.here hx rfl (hb hby d_method_2_15) rfl ?_
    refine XS.iconst X0.here hx rfl (hb hby d_method_2_16) ?_
    refine XS.icmpYes X0.here hx rfl (pc0 := 17) (pc' := 35) rfl (hb hby d_method_2_17) rfl (feq (by decide : ¬ ((3 : Int32) = (1 : Int32)))).2 (by decide) (by decide) ?_
    refine XS.iloadN X0.here hx rfl (hb hby d_method_2_35) rfl ?_
    refine XS.iconst X0.here hx rfl (hb hby d_method_2_36) ?_
    refine XS.icmpYes X0.here hx rfl (pc0 := 37) (pc' := 59) rfl (hb hby d_method_2_37) rfl (feq (by decide : ¬ ((3 : Int32) = (2 : Int32)))).2 (by decide) (by decide) ?_
    refine st1 _ ?_
    refine XS.dup X1.here hx rfl (hb hby d_method_2_62) rfl rfl ?_
    refine XS.iconst X1.here hx rfl (hb hby d_method_2_63) ?_
    refine st8 _ ?_
    refine XS.dup X8.here hx rfl (hb hby d_method_2_66) rfl rfl ?_
    refine XS.iconst X8.here hx rfl (hb hby d_method_2_67) ?_
    refine XS.iloadN X8.here hx rfl (hb hby d_method_2_68) rfl ?_
    refine st16 _ ?_
    refine XS.dup X16.here hx rfl (hb hby d_method_2_70) rfl rfl ?_
    refine XS.iconst X16.here hx rfl (hb hby d_method_2_71) ?_
    refine XS.iloadN X16.here hx rfl (hb hby d_method_2_72) rfl ?_
    refine st22 _ ?_
    refine XS.dup X22.here hx rfl (hb hby d_method_2_74) rfl rfl ?_
    refine XS.iconst X22.here hx rfl (hb hby d_method_2_75) ?_
    refine XS.iloadN X22.here hx rfl (hb hby d_method_2_76) rfl ?_
    refine st28 _ ?_
    refine st36.trans ?_
    exact retOut X36 hx Bd.returns rfl (Or.inr (Or.inr (Or.inr (Or.inr ⟨rfl, rfl, rfl⟩)))) (hb hby d_method_2_81) hr
  · show Q_rc63_make Z i1 i2 i3 h0 n0 _ T36.heap _
    exact ⟨b1, x36_x2_x3_x10_x1_b2, x36_x2_x3_x10_x1_k2, rfl, N36, K42, s3, s38, q36_0, q36_1, q36_2, q36_3⟩
def Q_rc77_isEmpty (Z : State) (a1 : Addr) (a2 : Addr) (k3 : ClassId) (i4 : Int32) (i5 : Int32) (i6 : Int32) (i7 : Int32) (i8 : Int32) (i9 : Int32) (h0 : Heap) (n0 : Nat) (v : Option Value) (h : Heap) (L : List Loc) : Prop := v = some (.int (0 : Int32)) ∧ Fr n0 L ∧ h = h0
set_option maxRecDepth 65536 in
set_option maxHeartbeats 40000000 in
theorem rc77_isEmpty (l : Launch) (Z : State) (a0 : Array Value) (hw : ∀ d ∈ tables_1, d.before a0 Z = true) (ws : List Jvm.Cond) (cs : Int32) (hS : SB Z cs) (a1 : Addr) (a2 : Addr) (k3 : ClassId) (i4 : Int32) (i5 : Int32) (i6 : Int32) (i7 : Int32) (i8 : Int32) (i9 : Int32) (h0 : Heap) (n0 : Nat) (O0 : Old Z n0 h0) (g_a1 : n0 ≤ a1) (g_a2 : n0 ≤ a2) (F_a1_value : Fld Z h0 a1 nString_0 "value" "[B" (.ref a2)) (V_a2 : Arv Z h0 a2 k3 .byte (6 : Int32) [(.int i4), (.int i5), (.int i6), (.int i7), (.int i8), (.int i9)] (.int (0 : Int32))) :
    Met l my_4 jdk_42_method_55_code 1 (some .boolean) ws ({ frames := 0, cells := 0, slots := 0, locals := 0 } : Room) #[(.ref a1)] Z h0 (Q_rc77_isEmpty Z a1 a2 k3 i4 i5 i6 i7 i8 i9 h0 n0) := by
  refine MetFree.of_bodySF (plainFor_of_name pn_1) hisR ?_
  intro p e s m args below meth c s₁ Bd hml0 hP hK
  obtain ⟨rfl, hZ, hh⟩ := hP
  have hx := Bd.exec
  have hby := Bd.bytes
  have hml : c.maxLocals = 1 := hml0
  have hown : s.vm.findClass nString_0 = some m.cls := findClass_of_methodNamed Bd.named
  have hnm := (name_of_methodNamed Bd.named Bd.method).1
  have X0 : Stand p l e ({ frames := 0, cells := 0, slots := 0, locals := 0 } : Room) s m #[(.ref a1)] below meth c s₁ [] 0 0 := Stand.of_body Bd
  have e0 : s₁.heap = h0 := by rw [← hh, Bd.state]; rfl
  have N0 := Fr.nil n0
  obtain ⟨f₀, hf₀⟩ : ∃ f, f = entryFrame m #[(.ref a1)] 1 := ⟨_, rfl⟩
  rw [← hf₀]
  have pre0 : Go p e below s₁ f₀ s₁ (mkF m 0 #[.val (.ref a1)] []) := fun t k => castTop (hf₀.trans (ef_rc77_isEmpty m (a1))) k
  obtain ⟨T1, X1, e1, st1⟩ := getF X0 hx hZ hown (host := "") (Or.inl (wq hw 25 rfl)) Via.refl e0 F_a1_value (g := (mkF m 1 #[.val (.ref a1)] [(.ref a1)])) rfl rfl (hb hby d_jdk_42_method_55_1)
  obtain ⟨c2, Ar2, q2, S2, M2, Hh2, G2⟩ := (id V_a2)
  obtain ⟨fs, hr, hrun, hended, hW, hsame⟩ := X1.leave (v := (some (.int (0 : Int32)))) (fun h => by rw [Bd.returns] at h; cases h)
  refine ⟨_, _, pre0 _ ?_, hrun, hended, _, _, rfl, ?_, ⟨_, rfl⟩, hW, hsame.mono (by decide) (by decide)⟩
  · refine XS.aloadN X0.here hx rfl (hb hby d_jdk_42_method_55_0) rfl rfl ?_
    refine st1 _ ?_
    refine X1.arraylength hx (by rw [e1]; exact Ar2.1) (State.isArrayOf_alike hZ.alike Ar2.2.1) (g := (mkF m 4 #[.val (.ref a1)] [(.ref a2)])) rfl rfl (hb hby d_jdk_42_method_55_4) _ ?_
    rw [len_of S2 M2]
    refine XS.ifYes X1.here hx rfl (pc0 := 5) (pc' := 12) rfl (hb hby d_jdk_42_method_55_5) rfl ((if0 _ _).trans (feq (by decide : ¬ ((6 : Int32) = (0 : Int32)))).2) (by decide) (by decide) ?_
    refine XS.iconst X1.here hx rfl (hb hby d_jdk_42_method_55_12) ?_
    exact retN X1 hx (t := .boolean) Bd.returns (by simp) (hb hby d_jdk_42_method_55_13) hr
  · show Q_rc77_isEmpty Z a1 a2 k3 i4 i5 i6 i7 i8 i9 h0 n0 _ T1.heap _
    rw [e1]
    exact ⟨rfl, N0, rfl⟩
def Q_rc76_traceAsked (Z : State) (a1 : Addr) (a2 : Addr) (k3 : ClassId) (i4 : Int32) (i5 : Int32) (i6 : Int32) (i7 : Int32) (i8 : Int32) (i9 : Int32) (h0 : Heap) (n0 : Nat) (v : Option Value) (h : Heap) (L : List Loc) : Prop := v = some (.int (1 : Int32)) ∧ Fr n0 L ∧ Keep h0 h []
set_option maxRecDepth 65536 in
set_option maxHeartbeats 40000000 in
theorem rc76_traceAsked (l : Launch) (Z : State) (a0 : Array Value) (hw : ∀ d ∈ tables_1, d.before a0 Z = true) (ws : List Jvm.Cond) (cs : Int32) (hS : SB Z cs) (a1 : Addr) (a2 : Addr) (k3 : ClassId) (i4 : Int32) (i5 : Int32) (i6 : Int32) (i7 : Int32) (i8 : Int32) (i9 : Int32) (h0 : Heap) (n0 : Nat) (O0 : Old Z n0 h0) (g_a1 : n0 ≤ a1) (g_a2 : n0 ≤ a2) (E_a1 : Exa Z h0 a1 nString_0) (F_a1_coder : Fld Z h0 a1 nString_0 "coder" "B" (.int (1 : Int32))) (F_a1_value : Fld Z h0 a1 nString_0 "value" "[B" (.ref a2)) (V_a2 : Arv Z h0 a2 k3 .byte (6 : Int32) [(.int i4), (.int i5), (.int i6), (.int i7), (.int i8), (.int i9)] (.int (0 : Int32))) :
    MetH l my_0 prog_17_method_2_code 1 (some .boolean) ws ({ frames := 1, cells := 2, slots := 8, locals := 14 } : Room) #[(.ref a1)] Z h0 [a1] (Q_rc76_traceAsked Z a1 a2 k3 i4 i5 i6 i7 i8 i9 h0 n0) := by
  refine MetFree.of_bodySF (plainFor_of_name pn_0) hisR ?_
  intro p e s m args below meth c s₁ Bd hml0 hP hK
  obtain ⟨rfl, hZ, hh, hCH⟩ := hP
  have hx := Bd.exec
  have hby := Bd.bytes
  have hml : c.maxLocals = 1 := hml0
  have hown : s.vm.findClass nUnfore_2 = some m.cls := findClass_of_methodNamed Bd.named
  have hnm := (name_of_methodNamed Bd.named Bd.method).1
  have X0 : Stand p l e ({ frames := 1, cells := 2, slots := 8, locals := 14 } : Room) (s.setVm s.vm) m #[(.ref a1)] below meth c s₁ [] 0 0 := Stand.of_body Bd
  have e0 : s₁.heap = h0 := by rw [← hh, Bd.state]; rfl
  have N0 := Fr.nil n0
  obtain ⟨f₀, hf₀⟩ : ∃ f, f = entryFrame m #[(.ref a1)] 1 := ⟨_, rfl⟩
  rw [← hf₀]
  have pre0 : Go p e below s₁ f₀ s₁ (mkF m 0 #[.val (.ref a1)] []) := fun t k => castTop (hf₀.trans (ef_rc76_traceAsked m (a1))) k
  have hZ0 : Z.Warmed39 (s.setVm s.vm).vm := hZ
  have hown0 : (s.setVm s.vm).vm.findClass nUnfore_2 = some m.cls := hown
  have hS0 : s.Since s.vm s.heap.size := (State.WarmedH.refl s).since _
  have hk0 : s.heap.size ≤ h0.size := by rw [hh]; exact Nat.le_refl _
  obtain ⟨cq1, kq1, q1a, q1b, q1c⟩ := isOf hZ0 e0 (E_a1)
  obtain ⟨_, _, ⟨T1, L1, k1, n1⟩, -, X1, ⟨Lc1, hQ1, l1, y1, z1⟩, st1⟩ := X0.virtualBack hx (y := my_4) (z := my_4) hown0 (mvT hZ0 (wq hw 31 rfl)) (mvT hZ0 (wq hw 32 rfl)) (notFace_of_selects (args := #[]) (mvT hZ0 (wq hw 34 rfl))) (mvT hZ0 (wq hw 34 rfl)) (mvT hZ0 (wq hw 33 rfl)) (by decide) (backOf (W := 0) (rc77_isEmpty l Z a0 hw [] cs hS a1 a2 k3 i4 i5 i6 i7 i8 i9 h0 n0 O0 g_a1 g_a2 F_a1_value V_a2) hZ0 (wq hw 35 rfl) (wq hw 7 rfl) (by decide) (by decide)) q1a q1c (g := (mkF m 5 #[.val (.ref a1)] [(.ref a1)])) rfl (by rw [hml]; rfl) (Steps.refl _) (argsL := []) (rest := []) (lenOf pd_4 rfl) rfl (by show 2 * 0 + _ ≤ _; exact Nat.le_of_eq rfl) (hb hby d_prog_17_method_2_5) (fun _ _ => ⟨rfl, e0, (by decide : 0 + 0 ≤ _), (by decide : 0 + 0 ≤ _)⟩)
  dsimp only [Pt.U, Pt.locs, Pt.cells, Pt.slots] at X1 l1 y1 z1 st1 hQ1
  have X1 := own_to X1 l1 y1 z1
  obtain ⟨rfl, N1q, e1⟩ := hQ1
  have N1 := Fr.app N0 N1q
  obtain ⟨sa2, T2, h2, k2, sb2, kc2, X2, e2, E2, hS2, hk2, hZ2, hown2, A2, Fc2, Fv2, Va2, la2, lb2, Cr2, Lt2, hne2, st2⟩ := ldcCH X1 hx hZ0 hown0 (wq hw 47 rfl) (own_wS hw) e1 hS0 hk0 (own_EL hw) (List.mem_of_getElem? (i := 0) rfl) hCH.1 (vs := [(.int (48 : Int32))]) (z := (1 : Int32)) ⟨by decide, rfl⟩ (by decide) rfl (g := (mkF m 12 #[.val (.ref a1)] [(.ref a1)])) rfl (hb hby d_prog_17_method_2_12) (n := 4) (by decide) (by decide) (by decide) (by decide)
  have O3 : Old Z n0 h2 := Old.ext O0 E2
  have K4 : Keep h0 h2 [] := (Keep.refl h0 []).ext E2
  have hk5 := Nat.le_trans hk0 E2.1
  have nn6 := hne2 a1 (Cr2.safe (hCH.2 a1 (List.mem_of_getElem? (i := 0) rfl)).1 (hCH.2 a1 (List.mem_of_getElem? (i := 0) rfl)).2)
  have t7 : Exa Z h2 a1 nString_0 := (E_a1.ext E2)
  have t8 : Fld Z h2 a1 nString_0 "coder" "B" (.int (1 : Int32)) := (F_a1_coder.ext E2)
  obtain ⟨cq9, kq9, q9a, q9b, q9c⟩ := isOf hZ2 e2 (t7)
  obtain ⟨_, _, ⟨T9, L9, k9, n9⟩, -, X9, ⟨Lc9, hQ9, l9, y9, z9⟩, st9⟩ := X2.virtualBack hx (y := my_13) (z := my_13) hown2 (mvT hZ2 (wq hw 48 rfl)) (mvT hZ2 (wq hw 49 rfl)) (notFace_of_selects (args := #[]) (mvT hZ2 (wq hw 51 rfl))) (mvT hZ2 (wq hw 51 rfl)) (mvT hZ2 (wq hw 50 rfl)) (by decide) (backOf (W := 0) (rc20_equals l Z a0 hw [] cs hS a1 sa2 h2 n0 O3 g_a1 t8 A2 Fc2 nn6.1) hZ2 (wq hw 52 rfl) (wq hw 7 rfl) (by decide) (by decide)) q9a q9c (g := (mkF m 14 #[.val (.ref a1)] [(.ref sa2), (.ref a1)])) rfl (by rw [hml]; rfl) (Steps.refl _) (argsL := [(.ref sa2)]) (rest := []) (lenOf pd_12 rfl) rfl (by show 2 * 0 + _ ≤ _; exact Nat.le_of_eq rfl) (hb hby d_prog_17_method_2_14) (fun _ _ => ⟨rfl, e2, (by decide : 2 + 0 ≤ _), (by decide : 8 + 0 ≤ _)⟩)
  dsimp only [Pt.U, Pt.locs, Pt.cells, Pt.slots] at X9 l9 y9 z9 st9 hQ9
  have X9 := own_to X9 l9 y9 z9
  obtain ⟨rfl, N9q, e9⟩ := hQ9
  have N9 := Fr.app N1 N9q
  obtain ⟨fs, hr, hrun, hended, hEW⟩ := Jvm.Stand.leaveW X9 hS2 (by rw [e9]; exact hk2) (v := (some (.int (1 : Int32)))) (fun h => by rw [Bd.returns] at h; cases h)
  refine ⟨_, _, pre0 _ ?_, hrun, hended, _, _, rfl, ?_, ⟨_, rfl⟩, hEW.2.1, hEW.2.2.1, hEW.2.2.2.mono (by decide) (by decide)⟩
  · refine XS.aloadN X0.here hx rfl (hb hby d_prog_17_method_2_0) rfl rfl ?_
    refine XS.ifnullNo X0.here hx rfl (hb hby d_prog_17_method_2_1) rfl ?_
    refine XS.aloadN X0.here hx rfl (hb hby d_prog_17_method_2_4) rfl rfl ?_
    refine st1.trans ?_
    refine XS.ifNo X1.here hx rfl (hb hby d_prog_17_method_2_8) rfl ((if0 _ _).trans (teq (by decide : (0 : Int32) = (0 : Int32))).2) ?_
    refine XS.aloadN X1.here hx rfl (hb hby d_prog_17_method_2_11) rfl rfl ?_
    refine st2 _ ?_
    refine st9.trans ?_
    refine XS.ifNo X9.here hx rfl (hb hby d_prog_17_method_2_17) rfl ((if0 _ _).trans (teq (by decide : (0 : Int32) = (0 : Int32))).2) ?_
    refine XS.iconst X9.here hx rfl (hb hby d_prog_17_method_2_20) ?_
    refine XS.goto X9.here hx rfl (pc0 := 21) (pc' := 25) rfl (hb hby d_prog_17_method_2_21) (by decide) (by decide) ?_
    exact retN X9 hx (t := .boolean) Bd.returns (by simp) (hb hby d_prog_17_method_2_25) hr
  · show Q_rc76_traceAsked Z a1 a2 k3 i4 i5 i6 i7 i8 i9 h0 n0 _ T9.heap _
    rw [e9]
    exact ⟨rfl, N9, K4⟩
def Q_rc82_compress (Z : State) (a1 : Addr) (a2 : Addr) (k3 : ClassId) (i4 : Int32) (i5 : Int32) (i6 : Int32) (k7 : ClassId) (h0 : Heap) (n0 : Nat) (v : Option Value) (h : Heap) (L : List Loc) : Prop := v = some (.int (1 : Int32)) ∧ Fr n0 L ∧ Keep h0 h [a2] ∧ Arv Z h a2 k7 .byte (3 : Int32) [(.int (nar .byte (i4.toInt8.toInt32))), (.int (0 : Int32)), (.int (0 : Int32))] (.int (0 : Int32))
set_option maxRecDepth 65536 in
set_option maxHeartbeats 40000000 in
theorem rc82_compress (l : Launch) (Z : State) (a0 : Array Value) (hw : ∀ d ∈ tables_1, d.before a0 Z = true) (ws : List Jvm.Cond) (cs : Int32) (hS : SB Z cs) (a1 : Addr) (a2 : Addr) (k3 : ClassId) (i4 : Int32) (i5 : Int32) (i6 : Int32) (k7 : ClassId) (h0 : Heap) (n0 : Nat) (O0 : Old Z n0 h0) (g_a1 : n0 ≤ a1) (g_a2 : n0 ≤ a2) (V_a1 : Arv Z h0 a1 k3 .char (3 : Int32) [(.int i4), (.int i5), (.int i6)] (.int (0 : Int32))) (V_a2 : Arv Z h0 a2 k7 .byte (3 : Int32) [(.int (0 : Int32)), (.int (0 : Int32)), (.int (0 : Int32))] (.int (0 : Int32))) (hy3 : ¬ (255 : Int32) < i4) (hy4 : (255 : Int32) < i5) (hy5 : ¬ a1 = a2) :
    Met l my_5 jdk_52_method_21_code 7 (some .int) ws ({ frames := 0, cells := 0, slots := 0, locals := 0 } : Room) #[(.ref a1), (.int (0 : Int32)), (.ref a2), (.int (0 : Int32)), (.int (3 : Int32))] Z h0 (Q_rc82_compress Z a1 a2 k3 i4 i5 i6 k7 h0 n0) := by
  refine MetFree.of_bodySF (plainFor_of_name pn_3) hisR ?_
  intro p e s m args below meth c s₁ Bd hml0 hP hK
  obtain ⟨rfl, hZ, hh⟩ := hP
  have hx := Bd.exec
  have hby := Bd.bytes
  have hml : c.maxLocals = 7 := hml0
  have hown : s.vm.findClass nString_1 = some m.cls := findClass_of_methodNamed Bd.named
  have hnm := (name_of_methodNamed Bd.named Bd.method).1
  have X0 : Stand p l e ({ frames := 0, cells := 0, slots := 0, locals := 0 } : Room) s m #[(.ref a1), (.int (0 : Int32)), (.ref a2), (.int (0 : Int32)), (.int (3 : Int32))] below meth c s₁ [] 0 0 := Stand.of_body Bd
  have e0 : s₁.heap = h0 := by rw [← hh, Bd.state]; rfl
  have N0 := Fr.nil n0
  obtain ⟨f₀, hf₀⟩ : ∃ f, f = entryFrame m #[(.ref a1), (.int (0 : Int32)), (.ref a2), (.int (0 : Int32)), (.int (3 : Int32))] 7 := ⟨_, rfl⟩
  rw [← hf₀]
  have pre0 : Go p e below s₁ f₀ s₁ (mkF m 0 #[.val (.ref a1), .val (.int (0 : Int32)), .val (.ref a2), .val (.int (0 : Int32)), .val (.int (3 : Int32)), .unset, .unset] []) := fun t k => castTop (hf₀.trans (ef_rc82_compress m (a1) ((0 : Int32)) (a2) ((0 : Int32)) ((3 : Int32)))) k
  obtain ⟨c1, Ar1, q1, S1, M1, Hh1, G1⟩ := (id V_a1)
  have hin1 : ¬ ((0 : Int32) < 0 ∨ c1.slots.size ≤ ((0 : Int32)).toNatClampNeg) := inb_of S1 ⟨by decide, by decide⟩
  have hat1 : c1.slots[((0 : Int32)).toNatClampNeg]? = some (.int i4) := Hh1.at hin1 rfl
  obtain ⟨c2, Ar2, q2, S2, M2, Hh2, G2⟩ := (id V_a2)
  have hin2 : ¬ ((0 : Int32) < 0 ∨ c2.slots.size ≤ ((0 : Int32)).toNatClampNeg) := inb_of S2 ⟨by decide, by decide⟩
  obtain ⟨T3, h3, X3, e3, W3, st3⟩ := stB X0 hx hZ e0 Ar2 (j := (0 : Int32)) hin2 (g := (mkF m 31 #[.val (.ref a1), .val (.int (0 : Int32)), .val (.ref a2), .val (.int (0 : Int32)), .val (.int (3 : Int32)), .val (.int (0 : Int32)), .val (.int i4)] [(.int (i4.toInt8.toInt32)), (.int (0 : Int32)), (.ref a2)])) rfl rfl (hb hby d_jdk_52_method_21_31)
  have v4 : Arv Z h3 a2 k7 .byte (3 : Int32) [(.int (nar .byte (i4.toInt8.toInt32))), (.int (0 : Int32)), (.int (0 : Int32))] (.int (0 : Int32)) := Arv.set Ar2 q2 S2 M2 Hh2 G2 (fits_nar_byte _) W3 0 rfl (Nat.le_of_ble_eq_true rfl)
  have N3 := Fr.snoc X3 N0 g_a2
  have O5 : Old Z n0 h3 := Old.wr O0 W3 g_a2
  have K6 : Keep h0 h3 [a2] := (Keep.refl h0 [a2]).wr W3 (Or.inl (List.mem_of_getElem? (i := 0) rfl))
  have t7 : Arv Z h3 a1 k3 .char (3 : Int32) [(.int i4), (.int i5), (.int i6)] (.int (0 : Int32)) := (V_a1.other W3 hy5)
  obtain ⟨c8, Ar8, q8, S8, M8, Hh8, G8⟩ := (id t7)
  have hin8 : ¬ ((1 : Int32) < 0 ∨ c8.slots.size ≤ ((1 : Int32)).toNatClampNeg) := inb_of S8 ⟨by decide, by decide⟩
  have hat8 : c8.slots[((1 : Int32)).toNatClampNeg]? = some (.int i5) := Hh8.at hin8 rfl
  obtain ⟨fs, hr, hrun, hended, hW, hsame⟩ := X3.leave (v := (some (.int (1 : Int32)))) (fun h => by rw [Bd.returns] at h; cases h)
  refine ⟨_, _, pre0 _ ?_, hrun, hended, _, _, rfl, ?_, ⟨_, rfl⟩, hW, hsame.mono (by decide) (by decide)⟩
  · refine XS.iconst X0.here hx rfl (hb hby d_jdk_52_method_21_0) ?_
    refine XS.istore X0.here hx rfl (hb hby d_jdk_52_method_21_1) rfl (l' := #[.val (.ref a1), .val (.int (0 : Int32)), .val (.ref a2), .val (.int (0 : Int32)), .val (.int (3 : Int32)), .val (.int (0 : Int32)), .unset]) rfl ?_
    refine XS.iload X0.here hx rfl (hb hby d_jdk_52_method_21_3) rfl ?_
    refine XS.iload X0.here hx rfl (hb hby d_jdk_52_method_21_5) rfl ?_
    refine XS.icmpNo X0.here hx rfl (hb hby d_jdk_52_method_21_7) rfl (tlt (by decide : (0 : Int32) < (3 : Int32))).2.1 ?_
    refine XS.aloadN X0.here hx rfl (hb hby d_jdk_52_method_21_10) rfl rfl ?_
    refine XS.iloadN X0.here hx rfl (hb hby d_jdk_52_method_21_11) rfl ?_
    refine X0.caload hx (j := (0 : Int32)) (v := (.int i4)) (by rw [e0]; exact Ar1.1) (State.isArrayOf_alike hZ.alike Ar1.2.1) Ar1.2.2 hin1 hat1 (g := (mkF m 12 #[.val (.ref a1), .val (.int (0 : Int32)), .val (.ref a2), .val (.int (0 : Int32)), .val (.int (3 : Int32)), .val (.int (0 : Int32)), .unset] [(.int (0 : Int32)), (.ref a1)])) rfl rfl (hb hby d_jdk_52_method_21_12) _ ?_
    refine XS.istore X0.here hx rfl (hb hby d_jdk_52_method_21_13) rfl (l' := #[.val (.ref a1), .val (.int (0 : Int32)), .val (.ref a2), .val (.int (0 : Int32)), .val (.int (3 : Int32)), .val (.int (0 : Int32)), .val (.int i4)]) rfl ?_
    refine XS.iload X0.here hx rfl (hb hby d_jdk_52_method_21_15) rfl ?_
    refine XS.sipush X0.here hx rfl (hb hby d_jdk_52_method_21_17) ?_
    refine XS.icmpYes X0.here hx rfl (pc0 := 20) (pc' := 26) rfl (hb hby d_jdk_52_method_21_20) rfl (flt hy3).2.2.2 (by decide) (by decide) ?_
    refine XS.aloadN X0.here hx rfl (hb hby d_jdk_52_method_21_26) rfl rfl ?_
    refine XS.iloadN X0.here hx rfl (hb hby d_jdk_52_method_21_27) rfl ?_
    refine XS.iload X0.here hx rfl (hb hby d_jdk_52_method_21_28) rfl ?_
    refine XS.i2b X0.here hx rfl (hb hby d_jdk_52_method_21_30) rfl ?_
    refine st3 _ ?_
    refine XS.iinc X3.here hx rfl (hb hby d_jdk_52_method_21_32) rfl (l' := #[.val (.ref a1), .val (.int (1 : Int32)), .val (.ref a2), .val (.int (0 : Int32)), .val (.int (3 : Int32)), .val (.int (0 : Int32)), .val (.int i4)]) rfl ?_
    refine XS.iinc X3.here hx rfl (hb hby d_jdk_52_method_21_35) rfl (l' := #[.val (.ref a1), .val (.int (1 : Int32)), .val (.ref a2), .val (.int (1 : Int32)), .val (.int (3 : Int32)), .val (.int (0 : Int32)), .val (.int i4)]) rfl ?_
    refine XS.iinc X3.here hx rfl (hb hby d_jdk_52_method_21_38) rfl (l' := #[.val (.ref a1), .val (.int (1 : Int32)), .val (.ref a2), .val (.int (1 : Int32)), .val (.int (3 : Int32)), .val (.int (1 : Int32)), .val (.int i4)]) rfl ?_
    refine XS.goto X3.here hx rfl (pc0 := 41) (pc' := 3) rfl (hb hby d_jdk_52_method_21_41) (by decide) (by decide) ?_
    refine XS.iload X3.here hx rfl (hb hby d_jdk_52_method_21_3) rfl ?_
    refine XS.iload X3.here hx rfl (hb hby d_jdk_52_method_21_5) rfl ?_
    refine XS.icmpNo X3.here hx rfl (hb hby d_jdk_52_method_21_7) rfl (tlt (by decide : (1 : Int32) < (3 : Int32))).2.1 ?_
    refine XS.aloadN X3.here hx rfl (hb hby d_jdk_52_method_21_10) rfl rfl ?_
    refine XS.iloadN X3.here hx rfl (hb hby d_jdk_52_method_21_11) rfl ?_
    refine X3.caload hx (j := (1 : Int32)) (v := (.int i5)) (by rw [e3]; exact Ar8.1) (State.isArrayOf_alike hZ.alike Ar8.2.1) Ar8.2.2 hin8 hat8 (g := (mkF m 12 #[.val (.ref a1), .val (.int (1 : Int32)), .val (.ref a2), .val (.int (1 : Int32)), .val (.int (3 : Int32)), .val (.int (1 : Int32)), .val (.int i4)] [(.int (1 : Int32)), (.ref a1)])) rfl rfl (hb hby d_jdk_52_method_21_12) _ ?_
    refine XS.istore X3.here hx rfl (hb hby d_jdk_52_method_21_13) rfl (l' := #[.val (.ref a1), .val (.int (1 : Int32)), .val (.ref a2), .val (.int (1 : Int32)), .val (.int (3 : Int32)), .val (.int (1 : Int32)), .val (.int i5)]) rfl ?_
    refine XS.iload X3.here hx rfl (hb hby d_jdk_52_method_21_15) rfl ?_
    refine XS.sipush X3.here hx rfl (hb hby d_jdk_52_method_21_17) ?_
    refine XS.icmpNo X3.here hx rfl (hb hby d_jdk_52_method_21_20) rfl (tlt hy4).2.2.2 ?_
    refine XS.iload X3.here hx rfl (hb hby d_jdk_52_method_21_23) rfl ?_
    exact retI X3 hx Bd.returns (hb hby d_jdk_52_method_21_25) hr
  · show Q_rc82_compress Z a1 a2 k3 i4 i5 i6 k7 h0 n0 _ T3.heap _
    rw [e3]
    exact ⟨rfl, N3, K6, v4⟩
def Q_rc83_getChar (Z : State) (a1 : Addr) (k2 : ClassId) (i3 : Int32) (i4 : Int32) (i5 : Int32) (i6 : Int32) (i7 : Int32) (i8 : Int32) (h0 : Heap) (n0 : Nat) (v : Option Value) (h : Heap) (L : List Loc) : Prop := v = some (.int (nar .char ((((i5 &&& (255 : Int32)) <<< ((0 : Int32) &&& 31)) ||| ((i6 &&& (255 : Int32)) <<< ((8 : Int32) &&& 31))).toUInt32.toUInt16.toUInt32.toInt32))) ∧ Fr n0 L ∧ h = h0
set_option maxRecDepth 65536 in
set_option maxHeartbeats 40000000 in
theorem rc83_getChar (l : Launch) (Z : State) (a0 : Array Value) (hw : ∀ d ∈ tables_1, d.before a0 Z = true) (ws : List Jvm.Cond) (cs : Int32) (hS : SB Z cs) (a1 : Addr) (k2 : ClassId) (i3 : Int32) (i4 : Int32) (i5 : Int32) (i6 : Int32) (i7 : Int32) (i8 : Int32) (h0 : Heap) (n0 : Nat) (O0 : Old Z n0 h0) (g_a1 : n0 ≤ a1) (V_a1 : Arv Z h0 a1 k2 .byte (6 : Int32) [(.int i3), (.int i4), (.int i5), (.int i6), (.int i7), (.int i8)] (.int (0 : Int32))) :
    Met l my_10 jdk_52_method_5_code 2 (some .char) ws ({ frames := 0, cells := 0, slots := 0, locals := 0 } : Room) #[(.ref a1), (.int (1 : Int32))] Z h0 (Q_rc83_getChar Z a1 k2 i3 i4 i5 i6 i7 i8 h0 n0) := by
  refine MetFree.of_bodySF (plainFor_of_name pn_3) hisR ?_
  intro p e s m args below meth c s₁ Bd hml0 hP hK
  obtain ⟨rfl, hZ, hh⟩ := hP
  have hx := Bd.exec
  have hby := Bd.bytes
  have hml : c.maxLocals = 2 := hml0
  have hown : s.vm.findClass nString_1 = some m.cls := findClass_of_methodNamed Bd.named
  have hnm := (name_of_methodNamed Bd.named Bd.method).1
  have X0 : Stand p l e ({ frames := 0, cells := 0, slots := 0, locals := 0 } : Room) s m #[(.ref a1), (.int (1 : Int32))] below meth c s₁ [] 0 0 := Stand.of_body Bd
  have e0 : s₁.heap = h0 := by rw [← hh, Bd.state]; rfl
  have N0 := Fr.nil n0
  obtain ⟨f₀, hf₀⟩ : ∃ f, f = entryFrame m #[(.ref a1), (.int (1 : Int32))] 2 := ⟨_, rfl⟩
  rw [← hf₀]
  have pre0 : Go p e below s₁ f₀ s₁ (mkF m 0 #[.val (.ref a1), .val (.int (1 : Int32))] []) := fun t k => castTop (hf₀.trans (ef_rc83_getChar m (a1) ((1 : Int32)))) k
  obtain ⟨T1, X1, e1, st1⟩ := getS2 X0 hx hZ hown (host := "") (Or.inl (wq hw 71 rfl)) Via.refl e0 (hS.2.2.1.ext O0.2) (g := (mkF m 0 #[.val (.ref a1), .val (.int (1 : Int32))] [])) rfl (hb hby d_jdk_52_method_5_0)
  obtain ⟨c2, Ar2, q2, S2, M2, Hh2, G2⟩ := (id V_a1)
  have hin2 : ¬ ((2 : Int32) < 0 ∨ c2.slots.size ≤ ((2 : Int32)).toNatClampNeg) := inb_of S2 ⟨by decide, by decide⟩
  have hat2 : c2.slots[((2 : Int32)).toNatClampNeg]? = some (.int i5) := Hh2.at hin2 rfl
  obtain ⟨T3, X3, e3, st3⟩ := getS2 X1 hx hZ hown (host := "") (Or.inl (wq hw 72 rfl)) Via.refl e1 (hS.2.2.2.1.ext O0.2) (g := (mkF m 42 #[.val (.ref a1), .val (.int (3 : Int32))] [(.int (i5 &&& (255 : Int32)))])) rfl (hb hby d_jdk_52_method_5_42)
  obtain ⟨c4, Ar4, q4, S4, M4, Hh4, G4⟩ := (id V_a1)
  have hin4 : ¬ ((3 : Int32) < 0 ∨ c4.slots.size ≤ ((3 : Int32)).toNatClampNeg) := inb_of S4 ⟨by decide, by decide⟩
  have hat4 : c4.slots[((3 : Int32)).toNatClampNeg]? = some (.int i6) := Hh4.at hin4 rfl
  obtain ⟨T5, X5, e5, st5⟩ := getS2 X3 hx hZ hown (host := "") (Or.inl (wq hw 73 rfl)) Via.refl e3 (hS.2.2.2.2.ext O0.2) (g := (mkF m 53 #[.val (.ref a1), .val (.int (3 : Int32))] [(.int (i6 &&& (255 : Int32))), (.int ((i5 &&& (255 : Int32)) <<< ((0 : Int32) &&& 31)))])) rfl (hb hby d_jdk_52_method_5_53)
  obtain ⟨fs, hr, hrun, hended, hW, hsame⟩ := X5.leave (v := (some (.int (nar .char ((((i5 &&& (255 : Int32)) <<< ((0 : Int32) &&& 31)) ||| ((i6 &&& (255 : Int32)) <<< ((8 : Int32) &&& 31))).toUInt32.toUInt16.toUInt32.toInt32))))) (fun h => by rw [Bd.returns] at h; cases h)
  refine ⟨_, _, pre0 _ ?_, hrun, hended, _, _, rfl, ?_, ⟨_, rfl⟩, hW, hsame.mono (by decide) (by decide)⟩
  · refine st1 _ ?_
    refine XS.ifYes X1.here hx rfl (pc0 := 3) (pc' := 28) rfl (hb hby d_jdk_52_method_5_3) rfl ((if0 _ _).trans (feq (by decide : ¬ ((1 : Int32) = (0 : Int32)))).2) (by decide) (by decide) ?_
    refine XS.iloadN X1.here hx rfl (hb hby d_jdk_52_method_5_28) rfl ?_
    refine XS.iconst X1.here hx rfl (hb hby d_jdk_52_method_5_29) ?_
    refine XS.ishl X1.here hx rfl (hb hby d_jdk_52_method_5_30) rfl ?_
    show Steps p.tables e below (T1.setTop (mkF m 31 #[.val (.ref a1), .val (.int (1 : Int32))] [(.int (2 : Int32))])) _
    refine XS.istoreN X1.here hx rfl (hb hby d_jdk_52_method_5_31) rfl (l' := #[.val (.ref a1), .val (.int (2 : Int32))]) rfl ?_
    refine XS.aloadN X1.here hx rfl (hb hby d_jdk_52_method_5_32) rfl rfl ?_
    refine XS.iloadN X1.here hx rfl (hb hby d_jdk_52_method_5_33) rfl ?_
    refine XS.iinc X1.here hx rfl (hb hby d_jdk_52_method_5_34) rfl (l' := #[.val (.ref a1), .val (.int (3 : Int32))]) rfl ?_
    refine X1.baloadBytes hx (j := (2 : Int32)) (v := (.int i5)) (by rw [e1]; exact Ar2.1) (State.isArrayOf_alike hZ.alike Ar2.2.1) Ar2.2.2 hin2 hat2 (g := (mkF m 37 #[.val (.ref a1), .val (.int (3 : Int32))] [(.int (2 : Int32)), (.ref a1)])) rfl rfl (hb hby d_jdk_52_method_5_37) _ ?_
    refine XS.sipush X1.here hx rfl (hb hby d_jdk_52_method_5_38) ?_
    refine XS.iand X1.here hx rfl (hb hby d_jdk_52_method_5_41) rfl ?_
    refine st3 _ ?_
    refine XS.ishl X3.here hx rfl (hb hby d_jdk_52_method_5_45) rfl ?_
    refine XS.aloadN X3.here hx rfl (hb hby d_jdk_52_method_5_46) rfl rfl ?_
    refine XS.iloadN X3.here hx rfl (hb hby d_jdk_52_method_5_47) rfl ?_
    refine X3.baloadBytes hx (j := (3 : Int32)) (v := (.int i6)) (by rw [e3]; exact Ar4.1) (State.isArrayOf_alike hZ.alike Ar4.2.1) Ar4.2.2 hin4 hat4 (g := (mkF m 48 #[.val (.ref a1), .val (.int (3 : Int32))] [(.int (3 : Int32)), (.ref a1), (.int ((i5 &&& (255 : Int32)) <<< ((0 : Int32) &&& 31)))])) rfl rfl (hb hby d_jdk_52_method_5_48) _ ?_
    refine XS.sipush X3.here hx rfl (hb hby d_jdk_52_method_5_49) ?_
    refine XS.iand X3.here hx rfl (hb hby d_jdk_52_method_5_52) rfl ?_
    refine st5 _ ?_
    refine XS.ishl X5.here hx rfl (hb hby d_jdk_52_method_5_56) rfl ?_
    refine XS.ior X5.here hx rfl (hb hby d_jdk_52_method_5_57) rfl ?_
    refine XS.i2c X5.here hx rfl (hb hby d_jdk_52_method_5_58) rfl ?_
    exact retN X5 hx (t := .char) Bd.returns (by simp) (hb hby d_jdk_52_method_5_59) hr
  · show Q_rc83_getChar Z a1 k2 i3 i4 i5 i6 i7 i8 h0 n0 _ T5.heap _
    rw [e5]
    exact ⟨rfl, N0, rfl⟩
def Q_rc81_compress (Z : State) (a1 : Addr) (k2 : ClassId) (i3 : Int32) (i4 : Int32) (i5 : Int32) (h0 : Heap) (n0 : Nat) (v : Option Value) (h : Heap) (L : List Loc) : Prop := ∃ (x13_x1_b2 : Addr), ∃ (x13_x1_k2 : ClassId), v = some (.ref x13_x1_b2) ∧ Fr n0 L ∧ Keep h0 h [] ∧ h0.size ≤ x13_x1_b2 ∧ Arv Z h x13_x1_b2 x13_x1_k2 .byte (6 : Int32) [(.int (nar .byte ((i3 >>> ((0 : Int32) &&& 31)).toInt8.toInt32))), (.int (nar .byte ((i3 >>> ((8 : Int32) &&& 31)).toInt8.toInt32))), (.int (nar .byte ((i4 >>> ((0 : Int32) &&& 31)).toInt8.toInt32))), (.int (nar .byte ((i4 >>> ((8 : Int32) &&& 31)).toInt8.toInt32))), (.int (nar .byte ((i5 >>> ((0 : Int32) &&& 31)).toInt8.toInt32))), (.int (nar .byte ((i5 >>> ((8 : Int32) &&& 31)).toInt8.toInt32)))] (.int (0 : Int32))
set_option maxRecDepth 65536 in
set_option maxHeartbeats 40000000 in
theorem rc81_compress (l : Launch) (Z : State) (a0 : Array Value) (hw : ∀ d ∈ tables_1, d.before a0 Z = true) (ws : List Jvm.Cond) (cs : Int32) (hS : SB Z cs) (a1 : Addr) (k2 : ClassId) (i3 : Int32) (i4 : Int32) (i5 : Int32) (h0 : Heap) (n0 : Nat) (O0 : Old Z n0 h0) (g_a1 : n0 ≤ a1) (V_a1 : Arv Z h0 a1 k2 .char (3 : Int32) [(.int i3), (.int i4), (.int i5)] (.int (0 : Int32))) (hy1 : nar .char i4 = i4) (hy3 : ¬ (255 : Int32) < i3) (hy4 : (255 : Int32) < i4) :
    Met l my_11 jdk_52_method_16_code 6 (some (.array .byte)) ws ({ frames := 3, cells := 2, slots := 9, locals := 40 } : Room) #[(.ref a1), (.int (0 : Int32)), (.int (3 : Int32))] Z h0 (Q_rc81_compress Z a1 k2 i3 i4 i5 h0 n0) := by
  refine MetFree.of_bodySF (plainFor_of_name pn_3) hisR ?_
  intro p e s m args below meth c s₁ Bd hml0 hP hK
  obtain ⟨rfl, hZ, hh⟩ := hP
  have hx := Bd.exec
  have hby := Bd.bytes
  have hml : c.maxLocals = 6 := hml0
  have hown : s.vm.findClass nString_1 = some m.cls := findClass_of_methodNamed Bd.named
  have hnm := (name_of_methodNamed Bd.named Bd.method).1
  have X0 : Stand p l e ({ frames := 3, cells := 2, slots := 9, locals := 40 } : Room) s m #[(.ref a1), (.int (0 : Int32)), (.int (3 : Int32))] below meth c s₁ [] 0 0 := Stand.of_body Bd
  have e0 : s₁.heap = h0 := by rw [← hh, Bd.state]; rfl
  have N0 := Fr.nil n0
  obtain ⟨f₀, hf₀⟩ : ∃ f, f = entryFrame m #[(.ref a1), (.int (0 : Int32)), (.int (3 : Int32))] 6 := ⟨_, rfl⟩
  rw [← hf₀]
  have pre0 : Go p e below s₁ f₀ s₁ (mkF m 0 #[.val (.ref a1), .val (.int (0 : Int32)), .val (.int (3 : Int32)), .unset, .unset, .unset] []) := fun t k => castTop (hf₀.trans (ef_rc81_compress m (a1) ((0 : Int32)) ((3 : Int32)))) k
  obtain ⟨T1, h1, k1, X1, e1, E1, A1, st1⟩ := newP X0 hx hZ (wq hw 20 rfl) e0 (g := (mkF m 1 #[.val (.ref a1), .val (.int (0 : Int32)), .val (.int (3 : Int32)), .unset, .unset, .unset] [(.int (3 : Int32))])) rfl (hb hby d_jdk_52_method_16_1) rfl (by decide) (cap := 3) (by decide) (by decide) (by decide) (by decide)
  obtain ⟨b1, gb1⟩ : ∃ z, z = h0.size := ⟨_, rfl⟩
  rw [← gb1] at A1 st1
  have ne2 : a1 ≠ b1 := Nat.ne_of_lt (Nat.lt_of_lt_of_le V_a1.lt (Nat.le_of_eq gb1.symm))
  have g3 : n0 ≤ b1 := Nat.le_trans (Nat.le_of_eq O0.1.symm) (Nat.le_trans O0.2.1 (Nat.le_of_eq gb1.symm))
  have s4 : h0.size ≤ b1 := Nat.le_trans (Keep.refl h0 []).1 (Nat.le_of_eq gb1.symm)
  have O5 : Old Z n0 h1 := Old.ext O0 E1
  have K6 : Keep h0 h1 [] := (Keep.refl h0 []).ext E1
  have v7 : Arv Z h1 b1 k1 .byte (3 : Int32) [(.int (0 : Int32)), (.int (0 : Int32)), (.int (0 : Int32))] (.int (0 : Int32)) := (Arv.new A1 (by decide)).pad (pad_rep [] (.int (0 : Int32)) 3)
  have t8 : Arv Z h1 a1 k2 .char (3 : Int32) [(.int i3), (.int i4), (.int i5)] (.int (0 : Int32)) := (V_a1.ext E1)
  obtain ⟨_, _, ⟨T9, L9, k9, n9⟩, -, X9, ⟨Lc9, hQ9, l9, y9, z9⟩, st9⟩ := Jvm.LawKit.callS X1 hx (y := my_5) hown (mvT hZ (wq hw 41 rfl)) (mvT hZ (wq hw 42 rfl)) (mvT hZ (wq hw 39 rfl)) (mvT hZ (wq hw 43 rfl)) (by decide) (backOf (W := 0) (rc82_compress l Z a0 hw [] cs hS a1 b1 k2 i3 i4 i5 k1 h1 n0 O5 g_a1 g3 t8 v7 hy3 hy4 ne2) hZ (wq hw 43 rfl) (wq hw 39 rfl) (by decide) (by decide)) (g := (mkF m 9 #[.val (.ref a1), .val (.int (0 : Int32)), .val (.int (3 : Int32)), .val (.ref b1), .unset, .unset] [(.int (3 : Int32)), (.int (0 : Int32)), (.ref b1), (.int (0 : Int32)), (.ref a1)])) rfl (by rw [hml]; rfl) (argsL := [(.ref a1), (.int (0 : Int32)), (.ref b1), (.int (0 : Int32)), (.int (3 : Int32))]) (rest := []) (lenOf pd_5 rfl) rfl (by show 2 * 0 + _ ≤ _; exact Nat.le_of_eq rfl) (hb hby d_jdk_52_method_16_9) (fun _ _ => ⟨rfl, e1, (by decide : 1 + 0 ≤ _), (by decide : 3 + 0 ≤ _)⟩)
  dsimp only [Pt.U, Pt.locs, Pt.cells, Pt.slots] at X9 l9 y9 z9 st9 hQ9
  have X9 := own_to X9 l9 y9 z9
  obtain ⟨rfl, N9q, K9, q9_0⟩ := hQ9
  have N9 := Fr.app N0 N9q
  have O10 : Old Z n0 T9.heap := Old.keep O5 K9 (allS g3 all0)
  have K11 : Keep h0 T9.heap [] := K6.trans K9 (allS (Or.inr s4) all0)
  have t12 : Arv Z T9.heap a1 k2 .char (3 : Int32) [(.int i3), (.int i4), (.int i5)] (.int (0 : Int32)) := (t8.keep K9 (ninS ne2 nin0))
  obtain ⟨_, _, ⟨T13, L13, k13, n13⟩, -, X13, ⟨Lc13, hQ13, l13, y13, z13⟩, st13⟩ := Jvm.LawKit.callS X9 hx (y := my_9) hown (mvT hZ (wq hw 58 rfl)) (mvT hZ (wq hw 59 rfl)) (mvT hZ (wq hw 39 rfl)) (mvT hZ (wq hw 60 rfl)) (by decide) (backOf (W := 0) (rc68_toBytes l Z a0 hw [] cs hS a1 k2 i3 i4 i5 T9.heap n0 O10 g_a1 t12) hZ (wq hw 60 rfl) (wq hw 39 rfl) (by decide) (by decide)) (g := (mkF m 23 #[.val (.ref a1), .val (.int (0 : Int32)), .val (.int (3 : Int32)), .val (.ref b1), .val (.int (1 : Int32)), .unset] [(.int (3 : Int32)), (.int (0 : Int32)), (.ref a1)])) rfl (by rw [hml]; rfl) (argsL := [(.ref a1), (.int (0 : Int32)), (.int (3 : Int32))]) (rest := []) (lenOf pd_9 rfl) rfl (by show 2 * 0 + _ ≤ _; exact Nat.le_of_eq rfl) (hb hby d_jdk_52_method_16_23) (fun _ _ => ⟨rfl, rfl, (by decide : 1 + 1 ≤ _), (by decide : 3 + 6 ≤ _)⟩)
  dsimp only [Pt.U, Pt.locs, Pt.cells, Pt.slots] at X13 l13 y13 z13 st13 hQ13
  have X13 := own_to X13 l13 y13 z13
  obtain ⟨x13_x1_b2, x13_x1_k2, rfl, N13q, K13, sz13_x1_b2, q13_0⟩ := hQ13
  have N13 := Fr.app N9 N13q
  have g14 : n0 ≤ x13_x1_b2 := Nat.le_trans (Nat.le_of_eq O10.1.symm) (Nat.le_trans O10.2.1 sz13_x1_b2)
  have s15 : h0.size ≤ x13_x1_b2 := Nat.le_trans K11.1 sz13_x1_b2
  have ne16 : a1 ≠ x13_x1_b2 := Nat.ne_of_lt (Nat.lt_of_lt_of_le t12.lt sz13_x1_b2)
  have ne17 : b1 ≠ x13_x1_b2 := Nat.ne_of_lt (Nat.lt_of_lt_of_le q9_0.lt sz13_x1_b2)
  have O18 : Old Z n0 T13.heap := Old.keep O10 K13 all0
  have K19 : Keep h0 T13.heap [] := K11.trans K13 all0
  obtain ⟨_, _, ⟨T20, L20, k20, n20⟩, -, X20, ⟨Lc20, hQ20, l20, y20, z20⟩, st20⟩ := Jvm.LawKit.callS X13 hx (y := my_10) hown (mvT hZ (wq hw 74 rfl)) (mvT hZ (wq hw 75 rfl)) (mvT hZ (wq hw 39 rfl)) (mvT hZ (wq hw 76 rfl)) (by decide) (backOf (W := 0) (rc83_getChar l Z a0 hw [] cs hS x13_x1_b2 x13_x1_k2 (nar .byte ((i3 >>> ((0 : Int32) &&& 31)).toInt8.toInt32)) (nar .byte ((i3 >>> ((8 : Int32) &&& 31)).toInt8.toInt32)) (nar .byte ((i4 >>> ((0 : Int32) &&& 31)).toInt8.toInt32)) (nar .byte ((i4 >>> ((8 : Int32) &&& 31)).toInt8.toInt32)) (nar .byte ((i5 >>> ((0 : Int32) &&& 31)).toInt8.toInt32)) (nar .byte ((i5 >>> ((8 : Int32) &&& 31)).toInt8.toInt32)) T13.heap n0 O18 g14 q13_0) hZ (wq hw 76 rfl) (wq hw 39 rfl) (by decide) (by decide)) (g := (mkF m 32 #[.val (.ref a1), .val (.int (0 : Int32)), .val (.int (3 : Int32)), .val (.ref b1), .val (.int (1 : Int32)), .val (.ref x13_x1_b2)] [(.int (1 : Int32)), (.ref x13_x1_b2)])) rfl (by rw [hml]; rfl) (argsL := [(.ref x13_x1_b2), (.int (1 : Int32))]) (rest := []) (lenOf pd_10 rfl) rfl (by show 2 * 0 + _ ≤ _; exact Nat.le_of_eq rfl) (hb hby d_jdk_52_method_16_32) (fun _ _ => ⟨rfl, rfl, (by decide : 2 + 0 ≤ _), (by decide : 9 + 0 ≤ _)⟩)
  dsimp only [Pt.U, Pt.locs, Pt.cells, Pt.slots] at X20 l20 y20 z20 st20 hQ20
  have X20 := own_to X20 l20 y20 z20
  obtain ⟨rfl, N20q, e20⟩ := hQ20
  have N20 := Fr.app N13 N20q
  obtain ⟨fs, hr, hrun, hended, hW, hsame⟩ := X20.leave (v := (some (.ref x13_x1_b2))) (fun h => by rw [Bd.returns] at h; cases h)
  refine ⟨_, _, pre0 _ ?_, hrun, hended, _, _, rfl, ?_, ⟨_, rfl⟩, hW, hsame.mono (by decide) (by decide)⟩
  · refine XS.iloadN X0.here hx rfl (hb hby d_jdk_52_method_16_0) rfl ?_
    refine st1 _ ?_
    refine XS.astoreN X1.here hx rfl (hb hby d_jdk_52_method_16_3) rfl rfl (l' := #[.val (.ref a1), .val (.int (0 : Int32)), .val (.int (3 : Int32)), .val (.ref b1), .unset, .unset]) rfl ?_
    refine XS.aloadN X1.here hx rfl (hb hby d_jdk_52_method_16_4) rfl rfl ?_
    refine XS.iloadN X1.here hx rfl (hb hby d_jdk_52_method_16_5) rfl ?_
    refine XS.aloadN X1.here hx rfl (hb hby d_jdk_52_method_16_6) rfl rfl ?_
    refine XS.iconst X1.here hx rfl (hb hby d_jdk_52_method_16_7) ?_
    refine XS.iloadN X1.here hx rfl (hb hby d_jdk_52_method_16_8) rfl ?_
    refine st9 _ ?_
    refine XS.istore X9.here hx rfl (hb hby d_jdk_52_method_16_12) rfl (l' := #[.val (.ref a1), .val (.int (0 : Int32)), .val (.int (3 : Int32)), .val (.ref b1), .val (.int (1 : Int32)), .unset]) rfl ?_
    refine XS.iload X9.here hx rfl (hb hby d_jdk_52_method_16_14) rfl ?_
    refine XS.iloadN X9.here hx rfl (hb hby d_jdk_52_method_16_16) rfl ?_
    refine XS.icmpNo X9.here hx rfl (hb hby d_jdk_52_method_16_17) rfl (feq (by decide : ¬ ((1 : Int32) = (3 : Int32)))).1 ?_
    refine XS.aloadN X9.here hx rfl (hb hby d_jdk_52_method_16_20) rfl rfl ?_
    refine XS.iloadN X9.here hx rfl (hb hby d_jdk_52_method_16_21) rfl ?_
    refine XS.iloadN X9.here hx rfl (hb hby d_jdk_52_method_16_22) rfl ?_
    refine st13 _ ?_
    refine XS.astore X13.here hx rfl (hb hby d_jdk_52_method_16_26) rfl rfl (l' := #[.val (.ref a1), .val (.int (0 : Int32)), .val (.int (3 : Int32)), .val (.ref b1), .val (.int (1 : Int32)), .val (.ref x13_x1_b2)]) rfl ?_
    refine XS.aload X13.here hx rfl (hb hby d_jdk_52_method_16_28) rfl rfl ?_
    refine XS.iload X13.here hx rfl (hb hby d_jdk_52_method_16_30) rfl ?_
    refine st20 _ ?_
    refine XS.sipush X20.here hx rfl (hb hby d_jdk_52_method_16_35) ?_
    refine XS.icmpYes X20.here hx rfl (pc0 := 38) (pc' := 54) rfl (hb hby d_jdk_52_method_16_38) rfl (tlt (own_getc hy1 hy4)).2.2.1 (by decide) (by decide) ?_
    refine XS.aload X20.here hx rfl (hb hby d_jdk_52_method_16_54) rfl rfl ?_
    exact retOut X20 hx Bd.returns rfl (Or.inr (Or.inr (Or.inr (Or.inr ⟨rfl, rfl, rfl⟩)))) (hb hby d_jdk_52_method_16_56) hr
  · show Q_rc81_compress Z a1 k2 i3 i4 i5 h0 n0 _ T20.heap _
    rw [e20]
    exact ⟨x13_x1_b2, x13_x1_k2, rfl, N20, K19, s15, q13_0⟩
def Q_rc80_init (Z : State) (a1 : Addr) (a2 : Addr) (k3 : ClassId) (i4 : Int32) (i5 : Int32) (i6 : Int32) (h0 : Heap) (n0 : Nat) (v : Option Value) (h : Heap) (L : List Loc) : Prop := ∃ (x3_x13_x1_b2 : Addr), ∃ (x3_x13_x1_k2 : ClassId), v = none ∧ Fr n0 L ∧ Keep h0 h [a1] ∧ h0.size ≤ x3_x13_x1_b2 ∧ Exa Z h a1 nString_0 ∧ Fld Z h a1 nString_0 "coder" "B" (.int (1 : Int32)) ∧ Fld Z h a1 nString_0 "value" "[B" (.ref x3_x13_x1_b2) ∧ Arv Z h x3_x13_x1_b2 x3_x13_x1_k2 .byte (6 : Int32) [(.int (nar .byte ((i4 >>> ((0 : Int32) &&& 31)).toInt8.toInt32))), (.int (nar .byte ((i4 >>> ((8 : Int32) &&& 31)).toInt8.toInt32))), (.int (nar .byte ((i5 >>> ((0 : Int32) &&& 31)).toInt8.toInt32))), (.int (nar .byte ((i5 >>> ((8 : Int32) &&& 31)).toInt8.toInt32))), (.int (nar .byte ((i6 >>> ((0 : Int32) &&& 31)).toInt8.toInt32))), (.int (nar .byte ((i6 >>> ((8 : Int32) &&& 31)).toInt8.toInt32)))] (.int (0 : Int32))
set_option maxRecDepth 65536 in
set_option maxHeartbeats 40000000 in
theorem rc80_init (l : Launch) (Z : State) (a0 : Array Value) (hw : ∀ d ∈ tables_1, d.before a0 Z = true) (ws : List Jvm.Cond) (cs : Int32) (hS : SB Z cs) (a1 : Addr) (a2 : Addr) (k3 : ClassId) (i4 : Int32) (i5 : Int32) (i6 : Int32) (h0 : Heap) (n0 : Nat) (O0 : Old Z n0 h0) (g_a1 : n0 ≤ a1) (g_a2 : n0 ≤ a2) (E_a1 : Exa Z h0 a1 nString_0) (F_a1_coder : Fld Z h0 a1 nString_0 "coder" "B" (.int (0 : Int32))) (F_a1_value : Fld Z h0 a1 nString_0 "value" "[B" .null) (V_a2 : Arv Z h0 a2 k3 .char (3 : Int32) [(.int i4), (.int i5), (.int i6)] (.int (0 : Int32))) (hy1 : nar .char i5 = i5) (hy3 : ¬ (255 : Int32) < i4) (hy4 : (255 : Int32) < i5) :
    Met l my_1 jdk_42_method_149_code 6 none ws ({ frames := 4, cells := 2, slots := 9, locals := 57 } : Room) #[(.ref a1), (.ref a2), (.int (0 : Int32)), (.int (3 : Int32)), .null] Z h0 (Q_rc80_init Z a1 a2 k3 i4 i5 i6 h0 n0) := by
  refine MetFree.of_bodySF (plainFor_of_name pn_1) hisR ?_
  intro p e s m args below meth c s₁ Bd hml0 hP hK
  obtain ⟨rfl, hZ, hh⟩ := hP
  have hx := Bd.exec
  have hby := Bd.bytes
  have hml : c.maxLocals = 6 := hml0
  have hown : s.vm.findClass nString_0 = some m.cls := findClass_of_methodNamed Bd.named
  have hnm := (name_of_methodNamed Bd.named Bd.method).1
  have X0 : Stand p l e ({ frames := 4, cells := 2, slots := 9, locals := 57 } : Room) s m #[(.ref a1), (.ref a2), (.int (0 : Int32)), (.int (3 : Int32)), .null] below meth c s₁ [] 0 0 := Stand.of_body Bd
  have e0 : s₁.heap = h0 := by rw [← hh, Bd.state]; rfl
  have N0 := Fr.nil n0
  obtain ⟨f₀, hf₀⟩ : ∃ f, f = entryFrame m #[(.ref a1), (.ref a2), (.int (0 : Int32)), (.int (3 : Int32)), .null] 6 := ⟨_, rfl⟩
  rw [← hf₀]
  have pre0 : Go p e below s₁ f₀ s₁ (mkF m 0 #[.val (.ref a1), .val (.ref a2), .val (.int (0 : Int32)), .val (.int (3 : Int32)), .val .null, .unset] []) := fun t k => castTop (hf₀.trans (ef_rc80_init m (a1) (a2) ((0 : Int32)) ((3 : Int32)))) k
  obtain ⟨T1, X1, e1, st1⟩ := initO X0 hx hZ hown (wq hw 16 rfl) (wq hw 17 rfl) (wq hw 18 rfl) e0 (g := (mkF m 1 #[.val (.ref a1), .val (.ref a2), .val (.int (0 : Int32)), .val (.int (3 : Int32)), .val .null, .unset] [(.ref a1)])) rfl (by rw [hml]; rfl) rfl (hb hby d_jdk_42_method_149_1) (by decide) (W := 0) (by show 2 * 0 + _ ≤ _; exact Nat.le_of_eq rfl) (by decide)
  obtain ⟨T2, X2, e2, st2⟩ := getS2 X1 hx hZ hown (host := "") (Or.inl (wq hw 36 rfl)) Via.refl e1 (hS.1.ext O0.2) (g := (mkF m 27 #[.val (.ref a1), .val (.ref a2), .val (.int (0 : Int32)), .val (.int (3 : Int32)), .val .null, .unset] [])) rfl (hb hby d_jdk_42_method_149_27)
  obtain ⟨_, _, ⟨T3, L3, k3, n3⟩, -, X3, ⟨Lc3, hQ3, l3, y3, z3⟩, st3⟩ := Jvm.LawKit.callS X2 hx (y := my_11) hown (mvT hZ (wq hw 37 rfl)) (mvT hZ (wq hw 38 rfl)) (mvT hZ (wq hw 39 rfl)) (mvT hZ (wq hw 40 rfl)) (by decide) (backOf (W := 0) (rc81_compress l Z a0 hw [] cs hS a2 k3 i4 i5 i6 h0 n0 O0 g_a2 V_a2 hy1 hy3 hy4) hZ (wq hw 40 rfl) (wq hw 39 rfl) (by decide) (by decide)) (g := (mkF m 36 #[.val (.ref a1), .val (.ref a2), .val (.int (0 : Int32)), .val (.int (3 : Int32)), .val .null, .unset] [(.int (3 : Int32)), (.int (0 : Int32)), (.ref a2)])) rfl (by rw [hml]; rfl) (argsL := [(.ref a2), (.int (0 : Int32)), (.int (3 : Int32))]) (rest := []) (lenOf pd_9 rfl) rfl (by show 2 * 0 + _ ≤ _; exact Nat.le_of_eq rfl) (hb hby d_jdk_42_method_149_36) (fun _ _ => ⟨rfl, e2, (by decide : 0 + 2 ≤ _), (by decide : 0 + 9 ≤ _)⟩)
  dsimp only [Pt.U, Pt.locs, Pt.cells, Pt.slots] at X3 l3 y3 z3 st3 hQ3
  have X3 := own_to X3 l3 y3 z3
  obtain ⟨x3_x13_x1_b2, x3_x13_x1_k2, rfl, N3q, K3, sz3_x13_x1_b2, q3_0⟩ := hQ3
  have N3 := Fr.app N0 N3q
  have g4 : n0 ≤ x3_x13_x1_b2 := Nat.le_trans (Nat.le_of_eq O0.1.symm) (Nat.le_trans O0.2.1 sz3_x13_x1_b2)
  have s5 : h0.size ≤ x3_x13_x1_b2 := Nat.le_trans (Keep.refl h0 [a1]).1 sz3_x13_x1_b2
  have ne6 : a1 ≠ x3_x13_x1_b2 := Nat.ne_of_lt (Nat.lt_of_lt_of_le E_a1.lt sz3_x13_x1_b2)
  have ne7 : a2 ≠ x3_x13_x1_b2 := Nat.ne_of_lt (Nat.lt_of_lt_of_le V_a2.lt sz3_x13_x1_b2)
  have O8 : Old Z n0 T3.heap := Old.keep O0 K3 all0
  have K9 : Keep h0 T3.heap [a1] := (Keep.refl h0 [a1]).trans K3 all0
  obtain ⟨_, _, ⟨T10, L10, k10, n10⟩, -, X10, ⟨Lc10, hQ10, l10, y10, z10⟩, st10⟩ := Jvm.LawKit.callS X3 hx (y := my_12) hown (mvT hZ (wq hw 44 rfl)) (mvT hZ (wq hw 45 rfl)) (mvT hZ (wq hw 39 rfl)) (mvT hZ (wq hw 46 rfl)) (by decide) (backOf (W := 1) (rc75_coderFromArrayLen l Z a0 hw [] cs hS x3_x13_x1_b2 x3_x13_x1_k2 (nar .byte ((i4 >>> ((0 : Int32) &&& 31)).toInt8.toInt32)) (nar .byte ((i4 >>> ((8 : Int32) &&& 31)).toInt8.toInt32)) (nar .byte ((i5 >>> ((0 : Int32) &&& 31)).toInt8.toInt32)) (nar .byte ((i5 >>> ((8 : Int32) &&& 31)).toInt8.toInt32)) (nar .byte ((i6 >>> ((0 : Int32) &&& 31)).toInt8.toInt32)) (nar .byte ((i6 >>> ((8 : Int32) &&& 31)).toInt8.toInt32)) T3.heap n0 O8 g4 q3_0) hZ (wq hw 46 rfl) (wq hw 39 rfl) (by decide) (by decide)) (g := (mkF m 45 #[.val (.ref a1), .val (.ref a2), .val (.int (0 : Int32)), .val (.int (3 : Int32)), .val .null, .val (.ref x3_x13_x1_b2)] [(.int (3 : Int32)), (.ref x3_x13_x1_b2), (.ref a1)])) rfl (by rw [hml]; rfl) (argsL := [(.ref x3_x13_x1_b2), (.int (3 : Int32))]) (rest := [(.ref a1)]) (lenOf pd_11 rfl) rfl (by show 2 * 0 + _ ≤ _; exact Nat.le_of_eq rfl) (hb hby d_jdk_42_method_149_45) (fun _ _ => ⟨rfl, rfl, (by decide : 2 + 0 ≤ _), (by decide : 9 + 0 ≤ _)⟩)
  dsimp only [Pt.U, Pt.locs, Pt.cells, Pt.slots] at X10 l10 y10 z10 st10 hQ10
  have X10 := own_to X10 l10 y10 z10
  obtain ⟨rfl, N10q, e10⟩ := hQ10
  have N10 := Fr.app N3 N10q
  have t11 : Exa Z T3.heap a1 nString_0 := (E_a1.keep K3)
  have t12 : Fld Z T3.heap a1 nString_0 "coder" "B" (.int (0 : Int32)) := (F_a1_coder.keep K3 nin0)
  obtain ⟨T13, h13, X13, e13, W13, st13⟩ := putFN X10 hx hZ hown (wq hw 26 rfl) Via.refl e10 t12 t11 (Or.inr ⟨(wq hw 22 rfl), rfl, hnm⟩) (wq hw 6 rfl) (ty := .byte) (v' := (.int (1 : Int32))) (by decide) rfl (by decide +kernel) (g := (mkF m 48 #[.val (.ref a1), .val (.ref a2), .val (.int (0 : Int32)), .val (.int (3 : Int32)), .val .null, .val (.ref x3_x13_x1_b2)] [(.int (1 : Int32)), (.ref a1)])) rfl rfl (hb hby d_jdk_42_method_149_48)
  have f14 : Fld Z h13 a1 nString_0 "coder" "B" (.int (1 : Int32)) := t12.same W13
  have N13 := Fr.snoc X13 N10 g_a1
  have O15 : Old Z n0 h13 := Old.wr O8 W13 g_a1
  have K16 : Keep h0 h13 [a1] := K9.wr W13 (Or.inl (List.mem_of_getElem? (i := 0) rfl))
  have t17 : Exa Z h13 a1 nString_0 := (t11.wr W13)
  have t18 : Fld Z h13 a1 nString_0 "value" "[B" .null := ((F_a1_value.keep K3 nin0).other W13 (Or.inr (slot_ne (Or.inr (wq hw 21 rfl)) (Or.inr (wq hw 22 rfl)) (by decide) (t := (.array .byte)) (t' := .byte) (by decide) (by decide))))
  obtain ⟨T19, h19, X19, e19, W19, st19⟩ := putF X13 hx hZ hown (host := "") (Or.inl (wq hw 25 rfl)) Via.refl e13 t18 t17 (Or.inr ⟨(wq hw 21 rfl), rfl, hnm⟩) (wq hw 6 rfl) (ty := (.array .byte)) (by decide) rfl rfl (g := (mkF m 54 #[.val (.ref a1), .val (.ref a2), .val (.int (0 : Int32)), .val (.int (3 : Int32)), .val .null, .val (.ref x3_x13_x1_b2)] [(.ref x3_x13_x1_b2), (.ref a1)])) rfl rfl (hb hby d_jdk_42_method_149_54)
  have f20 : Fld Z h19 a1 nString_0 "value" "[B" (.ref x3_x13_x1_b2) := t18.same W19
  have N19 := Fr.snoc X19 N13 g_a1
  have O21 : Old Z n0 h19 := Old.wr O15 W19 g_a1
  have K22 : Keep h0 h19 [a1] := K16.wr W19 (Or.inl (List.mem_of_getElem? (i := 0) rfl))
  have t23 : Exa Z h19 a1 nString_0 := (t17.wr W19)
  have t24 : Fld Z h19 a1 nString_0 "coder" "B" (.int (1 : Int32)) := (f14.other W19 (Or.inr (slot_ne (Or.inr (wq hw 22 rfl)) (Or.inr (wq hw 21 rfl)) (by decide) (t := .byte) (t' := (.array .byte)) (by decide) (by decide))))
  have t25 : Arv Z h19 x3_x13_x1_b2 x3_x13_x1_k2 .byte (6 : Int32) [(.int (nar .byte ((i4 >>> ((0 : Int32) &&& 31)).toInt8.toInt32))), (.int (nar .byte ((i4 >>> ((8 : Int32) &&& 31)).toInt8.toInt32))), (.int (nar .byte ((i5 >>> ((0 : Int32) &&& 31)).toInt8.toInt32))), (.int (nar .byte ((i5 >>> ((8 : Int32) &&& 31)).toInt8.toInt32))), (.int (nar .byte ((i6 >>> ((0 : Int32) &&& 31)).toInt8.toInt32))), (.int (nar .byte ((i6 >>> ((8 : Int32) &&& 31)).toInt8.toInt32)))] (.int (0 : Int32)) := ((q3_0.other W13 (Ne.symm ne6)).other W19 (Ne.symm ne6))
  obtain ⟨fs, hr, hrun, hended, hW, hsame⟩ := X19.leave (v := none) (fun _ => rfl)
  refine ⟨_, _, pre0 _ ?_, hrun, hended, _, _, rfl, ?_, ⟨_, rfl⟩, hW, hsame.mono (by decide) (by decide)⟩
  · refine XS.aloadN X0.here hx rfl (hb hby d_jdk_42_method_149_0) rfl rfl ?_
    refine st1 _ ?_
    refine XS.iloadN X1.here hx rfl (hb hby d_jdk_42_method_149_4) rfl ?_
    refine XS.ifYes X1.here hx rfl (pc0 := 5) (pc' := 27) rfl (hb hby d_jdk_42_method_149_5) rfl ((if0 _ _).trans (feq (by decide : ¬ ((3 : Int32) = (0 : Int32)))).2) (by decide) (by decide) ?_
    refine st2 _ ?_
    refine XS.ifNo X2.here hx rfl (hb hby d_jdk_42_method_149_30) rfl ((if0 _ _).trans (feq hS.2.1).1) ?_
    refine XS.aloadN X2.here hx rfl (hb hby d_jdk_42_method_149_33) rfl rfl ?_
    refine XS.iloadN X2.here hx rfl (hb hby d_jdk_42_method_149_34) rfl ?_
    refine XS.iloadN X2.here hx rfl (hb hby d_jdk_42_method_149_35) rfl ?_
    refine st3 _ ?_
    refine XS.astore X3.here hx rfl (hb hby d_jdk_42_method_149_39) rfl rfl (l' := #[.val (.ref a1), .val (.ref a2), .val (.int (0 : Int32)), .val (.int (3 : Int32)), .val .null, .val (.ref x3_x13_x1_b2)]) rfl ?_
    refine XS.aloadN X3.here hx rfl (hb hby d_jdk_42_method_149_41) rfl rfl ?_
    refine XS.aload X3.here hx rfl (hb hby d_jdk_42_method_149_42) rfl rfl ?_
    refine XS.iloadN X3.here hx rfl (hb hby d_jdk_42_method_149_44) rfl ?_
    refine st10 _ ?_
    refine st13 _ ?_
    refine XS.aloadN X13.here hx rfl (hb hby d_jdk_42_method_149_51) rfl rfl ?_
    refine XS.aload X13.here hx rfl (hb hby d_jdk_42_method_149_52) rfl rfl ?_
    refine st19 _ ?_
    exact X19.returnOut hx Bd.returns (hb hby d_jdk_42_method_149_57) hr
  · show Q_rc80_init Z a1 a2 k3 i4 i5 i6 h0 n0 _ T19.heap _
    rw [e19]
    exact ⟨x3_x13_x1_b2, x3_x13_x1_k2, rfl, N19, K22, s5, t23, t24, f20, t25⟩
def Q_rc79_init (Z : State) (a1 : Addr) (a2 : Addr) (k3 : ClassId) (i4 : Int32) (i5 : Int32) (i6 : Int32) (h0 : Heap) (n0 : Nat) (v : Option Value) (h : Heap) (L : List Loc) : Prop := ∃ (x2_x3_x13_x1_b2 : Addr), ∃ (x2_x3_x13_x1_k2 : ClassId), v = none ∧ Fr n0 L ∧ Keep h0 h [a1] ∧ h0.size ≤ x2_x3_x13_x1_b2 ∧ Exa Z h a1 nString_0 ∧ Fld Z h a1 nString_0 "coder" "B" (.int (1 : Int32)) ∧ Fld Z h a1 nString_0 "value" "[B" (.ref x2_x3_x13_x1_b2) ∧ Arv Z h x2_x3_x13_x1_b2 x2_x3_x13_x1_k2 .byte (6 : Int32) [(.int (nar .byte ((i4 >>> ((0 : Int32) &&& 31)).toInt8.toInt32))), (.int (nar .byte ((i4 >>> ((8 : Int32) &&& 31)).toInt8.toInt32))), (.int (nar .byte ((i5 >>> ((0 : Int32) &&& 31)).toInt8.toInt32))), (.int (nar .byte ((i5 >>> ((8 : Int32) &&& 31)).toInt8.toInt32))), (.int (nar .byte ((i6 >>> ((0 : Int32) &&& 31)).toInt8.toInt32))), (.int (nar .byte ((i6 >>> ((8 : Int32) &&& 31)).toInt8.toInt32)))] (.int (0 : Int32))
set_option maxRecDepth 65536 in
set_option maxHeartbeats 40000000 in
theorem rc79_init (l : Launch) (Z : State) (a0 : Array Value) (hw : ∀ d ∈ tables_1, d.before a0 Z = true) (ws : List Jvm.Cond) (cs : Int32) (hS : SB Z cs) (a1 : Addr) (a2 : Addr) (k3 : ClassId) (i4 : Int32) (i5 : Int32) (i6 : Int32) (h0 : Heap) (n0 : Nat) (O0 : Old Z n0 h0) (g_a1 : n0 ≤ a1) (g_a2 : n0 ≤ a2) (E_a1 : Exa Z h0 a1 nString_0) (F_a1_coder : Fld Z h0 a1 nString_0 "coder" "B" (.int (0 : Int32))) (F_a1_value : Fld Z h0 a1 nString_0 "value" "[B" .null) (V_a2 : Arv Z h0 a2 k3 .char (3 : Int32) [(.int i4), (.int i5), (.int i6)] (.int (0 : Int32))) (hy1 : nar .char i5 = i5) (hy3 : ¬ (255 : Int32) < i4) (hy4 : (255 : Int32) < i5) :
    Met l my_2 jdk_42_method_3_code 2 none ws ({ frames := 5, cells := 2, slots := 9, locals := 74 } : Room) #[(.ref a1), (.ref a2)] Z h0 (Q_rc79_init Z a1 a2 k3 i4 i5 i6 h0 n0) := by
  refine MetFree.of_bodySF (plainFor_of_name pn_1) hisR ?_
  intro p e s m args below meth c s₁ Bd hml0 hP hK
  obtain ⟨rfl, hZ, hh⟩ := hP
  have hx := Bd.exec
  have hby := Bd.bytes
  have hml : c.maxLocals = 2 := hml0
  have hown : s.vm.findClass nString_0 = some m.cls := findClass_of_methodNamed Bd.named
  have hnm := (name_of_methodNamed Bd.named Bd.method).1
  have X0 : Stand p l e ({ frames := 5, cells := 2, slots := 9, locals := 74 } : Room) s m #[(.ref a1), (.ref a2)] below meth c s₁ [] 0 0 := Stand.of_body Bd
  have e0 : s₁.heap = h0 := by rw [← hh, Bd.state]; rfl
  have N0 := Fr.nil n0
  obtain ⟨f₀, hf₀⟩ : ∃ f, f = entryFrame m #[(.ref a1), (.ref a2)] 2 := ⟨_, rfl⟩
  rw [← hf₀]
  have pre0 : Go p e below s₁ f₀ s₁ (mkF m 0 #[.val (.ref a1), .val (.ref a2)] []) := fun t k => castTop (hf₀.trans (ef_rc79_init m (a1) (a2))) k
  obtain ⟨c1, Ar1, q1, S1, M1, Hh1, G1⟩ := (id V_a2)
  obtain ⟨_, _, ⟨T2, L2, k2, n2⟩, -, X2, ⟨Lc2, hQ2, l2, y2, z2⟩, st2⟩ := X0.specialBack hx (y := my_1) rfl hown (mvT hZ (wq hw 12 rfl)) (mvT hZ (wq hw 13 rfl)) (mvT hZ (wq hw 15 rfl)) (by decide) (backOf (W := 0) (rc80_init l Z a0 hw [] cs hS a1 a2 k3 i4 i5 i6 h0 n0 O0 g_a1 g_a2 E_a1 F_a1_coder F_a1_value V_a2 hy1 hy3 hy4) hZ (wq hw 15 rfl) (wq hw 7 rfl) (by decide) (by decide)) (g := (mkF m 6 #[.val (.ref a1), .val (.ref a2)] [.null, (.int (3 : Int32)), (.int (0 : Int32)), (.ref a2), (.ref a1)])) rfl (by rw [hml]; rfl) (Steps.refl _) (a := a1) (argsL := [(.ref a2), (.int (0 : Int32)), (.int (3 : Int32)), .null]) (rest := []) (lenOf pd_1 rfl) rfl (by show 2 * 0 + _ ≤ _; exact Nat.le_of_eq rfl) (hb hby d_jdk_42_method_3_6) (fun _ _ => ⟨rfl, e0, (by decide : 0 + 2 ≤ _), (by decide : 0 + 9 ≤ _)⟩)
  dsimp only [Pt.U, Pt.locs, Pt.cells, Pt.slots] at X2 l2 y2 z2 st2 hQ2
  have X2 := own_to X2 l2 y2 z2
  obtain ⟨x2_x3_x13_x1_b2, x2_x3_x13_x1_k2, rfl, N2q, K2, sz2_x3_x13_x1_b2, q2_0, q2_1, q2_2, q2_3⟩ := hQ2
  have N2 := Fr.app N0 N2q
  have g3 : n0 ≤ x2_x3_x13_x1_b2 := Nat.le_trans (Nat.le_of_eq O0.1.symm) (Nat.le_trans O0.2.1 sz2_x3_x13_x1_b2)
  have s4 : h0.size ≤ x2_x3_x13_x1_b2 := Nat.le_trans (Keep.refl h0 [a1]).1 sz2_x3_x13_x1_b2
  have ne5 : a1 ≠ x2_x3_x13_x1_b2 := Nat.ne_of_lt (Nat.lt_of_lt_of_le E_a1.lt sz2_x3_x13_x1_b2)
  have ne6 : a2 ≠ x2_x3_x13_x1_b2 := Nat.ne_of_lt (Nat.lt_of_lt_of_le V_a2.lt sz2_x3_x13_x1_b2)
  have O7 : Old Z n0 T2.heap := Old.keep O0 K2 (allS g_a1 all0)
  have K8 : Keep h0 T2.heap [a1] := (Keep.refl h0 [a1]).trans K2 (allS (Or.inl (List.mem_of_getElem? (i := 0) rfl)) all0)
  obtain ⟨fs, hr, hrun, hended, hW, hsame⟩ := X2.leave (v := none) (fun _ => rfl)
  refine ⟨_, _, pre0 _ ?_, hrun, hended, _, _, rfl, ?_, ⟨_, rfl⟩, hW, hsame.mono (by decide) (by decide)⟩
  · refine XS.aloadN X0.here hx rfl (hb hby d_jdk_42_method_3_0) rfl rfl ?_
    refine XS.aloadN X0.here hx rfl (hb hby d_jdk_42_method_3_1) rfl rfl ?_
    refine XS.iconst X0.here hx rfl (hb hby d_jdk_42_method_3_2) ?_
    refine XS.aloadN X0.here hx rfl (hb hby d_jdk_42_method_3_3) rfl rfl ?_
    refine X0.arraylength hx (by rw [e0]; exact Ar1.1) (State.isArrayOf_alike hZ.alike Ar1.2.1) (g := (mkF m 4 #[.val (.ref a1), .val (.ref a2)] [(.ref a2), (.int (0 : Int32)), (.ref a2), (.ref a1)])) rfl rfl (hb hby d_jdk_42_method_3_4) _ ?_
    rw [len_of S1 M1]
    refine XS.aconstNull X0.here hx rfl (hb hby d_jdk_42_method_3_5) ?_
    refine st2.trans ?_
    exact X2.returnOut hx Bd.returns (hb hby d_jdk_42_method_3_9) hr
  · show Q_rc79_init Z a1 a2 k3 i4 i5 i6 h0 n0 _ T2.heap _
    exact ⟨x2_x3_x13_x1_b2, x2_x3_x13_x1_k2, rfl, N2, K8, s4, q2_0, q2_1, q2_2, q2_3⟩
def Q_rc78_make (Z : State) (i1 : Int32) (i2 : Int32) (i3 : Int32) (h0 : Heap) (n0 : Nat) (v : Option Value) (h : Heap) (L : List Loc) : Prop := ∃ (b1 : Addr), ∃ (x36_x2_x3_x13_x1_b2 : Addr), ∃ (x36_x2_x3_x13_x1_k2 : ClassId), v = some (.ref b1) ∧ Fr n0 L ∧ Keep h0 h [] ∧ h0.size ≤ b1 ∧ h0.size ≤ x36_x2_x3_x13_x1_b2 ∧ Exa Z h b1 nString_0 ∧ Fld Z h b1 nString_0 "coder" "B" (.int (1 : Int32)) ∧ Fld Z h b1 nString_0 "value" "[B" (.ref x36_x2_x3_x13_x1_b2) ∧ Arv Z h x36_x2_x3_x13_x1_b2 x36_x2_x3_x13_x1_k2 .byte (6 : Int32) [(.int (nar .byte ((i1 >>> ((0 : Int32) &&& 31)).toInt8.toInt32))), (.int (nar .byte ((i1 >>> ((8 : Int32) &&& 31)).toInt8.toInt32))), (.int (nar .byte ((i2 >>> ((0 : Int32) &&& 31)).toInt8.toInt32))), (.int (nar .byte ((i2 >>> ((8 : Int32) &&& 31)).toInt8.toInt32))), (.int (nar .byte ((i3 >>> ((0 : Int32) &&& 31)).toInt8.toInt32))), (.int (nar .byte ((i3 >>> ((8 : Int32) &&& 31)).toInt8.toInt32)))] (.int (0 : Int32))
set_option maxRecDepth 65536 in
set_option maxHeartbeats 40000000 in
theorem rc78_make (l : Launch) (Z : State) (a0 : Array Value) (hw : ∀ d ∈ tables_1, d.before a0 Z = true) (ws : List Jvm.Cond) (cs : Int32) (hS : SB Z cs) (i1 : Int32) (i2 : Int32) (i3 : Int32) (h0 : Heap) (n0 : Nat) (O0 : Old Z n0 h0) (hy0 : nar .char i1 = i1) (hy1 : nar .char i2 = i2) (hy2 : nar .char i3 = i3) (hy3 : ¬ (255 : Int32) < i1) (hy4 : (255 : Int32) < i2) :
    Met l my_3 method_2_code 4 (some (.object nString_0)) ws ({ frames := 6, cells := 4, slots := 16, locals := 88 } : Room) #[(.int (3 : Int32)), (.int i1), (.int i2), (.int i3)] Z h0 (Q_rc78_make Z i1 i2 i3 h0 n0) := by
  refine MetFree.of_bodySF (plainFor_of_name pn_2) hisR ?_
  intro p e s m args below meth c s₁ Bd hml0 hP hK
  obtain ⟨rfl, hZ, hh⟩ := hP
  have hx := Bd.exec
  have hby := Bd.bytes
  have hml : c.maxLocals = 4 := hml0
  have hown : s.vm.findClass nUnfore_3 = some m.cls := findClass_of_methodNamed Bd.named
  have hnm := (name_of_methodNamed Bd.named Bd.method).1
  have X0 : Stand p l e ({ frames := 6, cells := 4, slots := 16, locals := 88 } : Room) s m #[(.int (3 : Int32)), (.int i1), (.int i2), (.int i3)] below meth c s₁ [] 0 0 := Stand.of_body Bd
  have e0 : s₁.heap = h0 := by rw [← hh, Bd.state]; rfl
  have N0 := Fr.nil n0
  obtain ⟨f₀, hf₀⟩ : ∃ f, f = entryFrame m #[(.int (3 : Int32)), (.int i1), (.int i2), (.int i3)] 4 := ⟨_, rfl⟩
  rw [← hf₀]
  have pre0 : Go p e below s₁ f₀ s₁ (mkF m 0 #[.val (.int (3 : Int32)), .val (.int i1), .val (.int i2), .val (.int i3)] []) := fun t k => castTop (hf₀.trans (ef_rc78_make m ((3 : Int32)) (i1) (i2) (i3))) k
  obtain ⟨T1, h1, X1, e1, E1, A1, D1, -, st1⟩ := newO X0 hx hZ hown (wq hw 5 rfl) (wq hw 6 rfl) (wq hw 7 rfl) e0 (g := (mkF m 59 #[.val (.int (3 : Int32)), .val (.int i1), .val (.int i2), .val (.int i3)] [])) rfl (hb hby d_method_2_59) (by decide) (by decide)
  obtain ⟨b1, gb1⟩ : ∃ z, z = h0.size := ⟨_, rfl⟩
  rw [← gb1] at A1 D1 st1
  have g2 : n0 ≤ b1 := Nat.le_trans (Nat.le_of_eq O0.1.symm) (Nat.le_trans O0.2.1 (Nat.le_of_eq gb1.symm))
  have s3 : h0.size ≤ b1 := Nat.le_trans (Keep.refl h0 []).1 (Nat.le_of_eq gb1.symm)
  have O4 : Old Z n0 h1 := Old.ext O0 E1
  have K5 : Keep h0 h1 [] := (Keep.refl h0 []).ext E1
  have f6 : Fld Z h1 b1 nString_0 "value" "[B" .null := D1 (Or.inr (wq hw 21 rfl)) (ty := (.array .byte)) (by decide)
  have f7 : Fld Z h1 b1 nString_0 "coder" "B" (.int (0 : Int32)) := D1 (Or.inr (wq hw 22 rfl)) (ty := .byte) (by decide)
  obtain ⟨T8, h8, k8, X8, e8, E8, A8, st8⟩ := newP X1 hx hZ (wq hw 8 rfl) e1 (g := (mkF m 64 #[.val (.int (3 : Int32)), .val (.int i1), .val (.int i2), .val (.int i3)] [(.int (3 : Int32)), (.ref b1), (.ref b1)])) rfl (hb hby d_method_2_64) rfl (by decide) (cap := 3) (by decide) (by decide) (by decide) (by decide)
  obtain ⟨b8, gb8⟩ : ∃ z, z = h1.size := ⟨_, rfl⟩
  rw [← gb8] at A8 st8
  have ne9 : b1 ≠ b8 := Nat.ne_of_lt (Nat.lt_of_lt_of_le A1.lt (Nat.le_of_eq gb8.symm))
  have g10 : n0 ≤ b8 := Nat.le_trans (Nat.le_of_eq O4.1.symm) (Nat.le_trans O4.2.1 (Nat.le_of_eq gb8.symm))
  have s11 : h0.size ≤ b8 := Nat.le_trans K5.1 (Nat.le_of_eq gb8.symm)
  have O12 : Old Z n0 h8 := Old.ext O4 E8
  have K13 : Keep h0 h8 [] := K5.ext E8
  have v14 : Arv Z h8 b8 k8 .char (3 : Int32) [(.int (0 : Int32)), (.int (0 : Int32)), (.int (0 : Int32))] (.int (0 : Int32)) := (Arv.new A8 (by decide)).pad (pad_rep [] (.int (0 : Int32)) 3)
  obtain ⟨c15, Ar15, q15, S15, M15, Hh15, G15⟩ := (id v14)
  have hin15 : ¬ ((0 : Int32) < 0 ∨ c15.slots.size ≤ ((0 : Int32)).toNatClampNeg) := inb_of S15 ⟨by decide, by decide⟩
  obtain ⟨T16, h16, X16, e16, W16, st16⟩ := stC X8 hx hZ e8 Ar15 (j := (0 : Int32)) hin15 (g := (mkF m 69 #[.val (.int (3 : Int32)), .val (.int i1), .val (.int i2), .val (.int i3)] [(.int i1), (.int (0 : Int32)), (.ref b8), (.ref b8), (.ref b1), (.ref b1)])) rfl rfl (hb hby d_method_2_69)
  have v17 : Arv Z h16 b8 k8 .char (3 : Int32) [(.int (nar .char i1)), (.int (0 : Int32)), (.int (0 : Int32))] (.int (0 : Int32)) := Arv.set Ar15 q15 S15 M15 Hh15 G15 (fits_nar_char _) W16 0 rfl (Nat.le_of_ble_eq_true rfl)
  have v18 : Arv Z h16 b8 k8 .char (3 : Int32) [(.int i1), (.int (0 : Int32)), (.int (0 : Int32))] (.int (0 : Int32)) := by rw [hy0] at v17; exact v17
  have N16 := Fr.snoc X16 N0 g10
  have O19 : Old Z n0 h16 := Old.wr O12 W16 g10
  have K20 : Keep h0 h16 [] := K13.wr W16 (Or.inr s11)
  obtain ⟨c21, Ar21, q21, S21, M21, Hh21, G21⟩ := (id v18)
  have hin21 : ¬ ((1 : Int32) < 0 ∨ c21.slots.size ≤ ((1 : Int32)).toNatClampNeg) := inb_of S21 ⟨by decide, by decide⟩
  obtain ⟨T22, h22, X22, e22, W22, st22⟩ := stC X16 hx hZ e16 Ar21 (j := (1 : Int32)) hin21 (g := (mkF m 73 #[.val (.int (3 : Int32)), .val (.int i1), .val (.int i2), .val (.int i3)] [(.int i2), (.int (1 : Int32)), (.ref b8), (.ref b8), (.ref b1), (.ref b1)])) rfl rfl (hb hby d_method_2_73)
  have v23 : Arv Z h22 b8 k8 .char (3 : Int32) [(.int i1), (.int (nar .char i2)), (.int (0 : Int32))] (.int (0 : Int32)) := Arv.set Ar21 q21 S21 M21 Hh21 G21 (fits_nar_char _) W22 1 rfl (Nat.le_of_ble_eq_true rfl)
  have v24 : Arv Z h22 b8 k8 .char (3 : Int32) [(.int i1), (.int i2), (.int (0 : Int32))] (.int (0 : Int32)) := by rw [hy1] at v23; exact v23
  have N22 := Fr.snoc X22 N16 g10
  have O25 : Old Z n0 h22 := Old.wr O19 W22 g10
  have K26 : Keep h0 h22 [] := K20.wr W22 (Or.inr s11)
  obtain ⟨c27, Ar27, q27, S27, M27, Hh27, G27⟩ := (id v24)
  have hin27 : ¬ ((2 : Int32) < 0 ∨ c27.slots.size ≤ ((2 : Int32)).toNatClampNeg) := inb_of S27 ⟨by decide, by decide⟩
  obtain ⟨T28, h28, X28, e28, W28, st28⟩ := stC X22 hx hZ e22 Ar27 (j := (2 : Int32)) hin27 (g := (mkF m 77 #[.val (.int (3 : Int32)), .val (.int i1), .val (.int i2), .val (.int i3)] [(.int i3), (.int (2 : Int32)), (.ref b8), (.ref b8), (.ref b1), (.ref b1)])) rfl rfl (hb hby d_method_2_77)
  have v29 : Arv Z h28 b8 k8 .char (3 : Int32) [(.int i1), (.int i2), (.int (nar .char i3))] (.int (0 : Int32)) := Arv.set Ar27 q27 S27 M27 Hh27 G27 (fits_nar_char _) W28 2 rfl (Nat.le_of_ble_eq_true rfl)
  have v30 : Arv Z h28 b8 k8 .char (3 : Int32) [(.int i1), (.int i2), (.int i3)] (.int (0 : Int32)) := by rw [hy2] at v29; exact v29
  have N28 := Fr.snoc X28 N22 g10
  have O31 : Old Z n0 h28 := Old.wr O25 W28 g10
  have K32 : Keep h0 h28 [] := K26.wr W28 (Or.inr s11)
  have t33 : Exa Z h28 b1 nString_0 := ((((A1.ext E8).wr W16).wr W22).wr W28)
  have t34 : Fld Z h28 b1 nString_0 "coder" "B" (.int (0 : Int32)) := ((((f7.ext E8).other W16 (Or.inl ne9)).other W22 (Or.inl ne9)).other W28 (Or.inl ne9))
  have t35 : Fld Z h28 b1 nString_0 "value" "[B" .null := ((((f6.ext E8).other W16 (Or.inl ne9)).other W22 (Or.inl ne9)).other W28 (Or.inl ne9))
  obtain ⟨_, _, ⟨T36, L36, k36, n36⟩, -, X36, ⟨Lc36, hQ36, l36, y36, z36⟩, st36⟩ := X28.specialBack hx (y := my_2) rfl hown (mvT hZ (wq hw 9 rfl)) (mvT hZ (wq hw 10 rfl)) (mvT hZ (wq hw 11 rfl)) (by decide) (backOf (W := 1) (rc79_init l Z a0 hw [] cs hS b1 b8 k8 i1 i2 i3 h28 n0 O31 g2 g10 t33 t34 t35 v30 hy1 hy3 hy4) hZ (wq hw 11 rfl) (wq hw 7 rfl) (by decide) (by decide)) (g := (mkF m 78 #[.val (.int (3 : Int32)), .val (.int i1), .val (.int i2), .val (.int i3)] [(.ref b8), (.ref b1), (.ref b1)])) rfl (by rw [hml]; rfl) (Steps.refl _) (a := b1) (argsL := [(.ref b8)]) (rest := [(.ref b1)]) (lenOf pd_2 rfl) rfl (by show 2 * 0 + _ ≤ _; exact Nat.le_of_eq rfl) (hb hby d_method_2_78) (fun _ _ => ⟨rfl, e28, (by decide : 2 + 2 ≤ _), (by decide : 7 + 9 ≤ _)⟩)
  dsimp only [Pt.U, Pt.locs, Pt.cells, Pt.slots] at X36 l36 y36 z36 st36 hQ36
  have X36 := own_to X36 l36 y36 z36
  obtain ⟨x36_x2_x3_x13_x1_b2, x36_x2_x3_x13_x1_k2, rfl, N36q, K36, sz36_x2_x3_x13_x1_b2, q36_0, q36_1, q36_2, q36_3⟩ := hQ36
  have N36 := Fr.app N28 N36q
  have g37 : n0 ≤ x36_x2_x3_x13_x1_b2 := Nat.le_trans (Nat.le_of_eq O31.1.symm) (Nat.le_trans O31.2.1 sz36_x2_x3_x13_x1_b2)
  have s38 : h0.size ≤ x36_x2_x3_x13_x1_b2 := Nat.le_trans K32.1 sz36_x2_x3_x13_x1_b2
  have ne39 : b1 ≠ x36_x2_x3_x13_x1_b2 := Nat.ne_of_lt (Nat.lt_of_lt_of_le t33.lt sz36_x2_x3_x13_x1_b2)
  have ne40 : b8 ≠ x36_x2_x3_x13_x1_b2 := Nat.ne_of_lt (Nat.lt_of_lt_of_le v30.lt sz36_x2_x3_x13_x1_b2)
  have O41 : Old Z n0 T36.heap := Old.keep O31 K36 (allS g2 all0)
  have K42 : Keep h0 T36.heap [] := K32.trans K36 (allS (Or.inr s3) all0)
  obtain ⟨fs, hr, hrun, hended, hW, hsame⟩ := X36.leave (v := (some (.ref b1))) (fun h => by rw [Bd.returns] at h; cases h)
  refine ⟨_, _, pre0 _ ?_, hrun, hended, _, _, rfl, ?_, ⟨_, rfl⟩, hW, hsame.mono (by decide) (by decide)⟩
  · refine XS.iloadN X0.here hx rfl (hb hby d_method_2_0) rfl ?_
    refine XS.ifYes X0.here hx rfl (pc0 := 1) (pc' := 15) rfl (hb hby d_method_2_1) rfl ((if0 _ _).trans (feq (by decide : ¬ ((3 : Int32) = (0 : Int32)))).2) (by decide) (by decide) ?_
    refine XS.iloadN X0.here hx rfl (hb hby d_method_2_15) rfl ?_
    refine XS.iconst X0.here hx rfl (hb hby d_method_2_16) ?_
    refine XS.icmpYes X0.here hx rfl (pc0 := 17) (pc' := 35) rfl (hb hby d_method_2_17) rfl (feq (by decide : ¬ ((3 : Int32) = (1 : Int32)))).2 (by decide) (by decide) ?_
    refine XS.iloadN X0.here hx rfl (hb hby d_method_2_35) rfl ?_
    refine XS.iconst X0.here hx rfl (hb hby d_method_2_36) ?_
    refine XS.icmpYes X0.here hx rfl (pc0 := 37) (pc' := 59) rfl (hb hby d_method_2_37) rfl (feq (by decide : ¬ ((3 : Int32) = (2 : Int32)))).2 (by decide) (by decide) ?_
    refine st1 _ ?_
    refine XS.dup X1.here hx rfl (hb hby d_method_2_62) rfl rfl ?_
    refine XS.iconst X1.here hx rfl (hb hby d_method_2_63) ?_
    refine st8 _ ?_
    refine XS.dup X8.here hx rfl (hb hby d_method_2_66) rfl rfl ?_
    refine XS.iconst X8.here hx rfl (hb hby d_method_2_67) ?_
    refine XS.iloadN X8.here hx rfl (hb hby d_method_2_68) rfl ?_
    refine st16 _ ?_
    refine XS.dup X16.here hx rfl (hb hby d_method_2_70) rfl rfl ?_
    refine XS.iconst X16.here hx rfl (hb hby d_method_2_71) ?_
    refine XS.iloadN X16.here hx rfl (hb hby d_method_2_72) rfl ?_
    refine st22 _ ?_
    refine XS.dup X22.here hx rfl (hb hby d_method_2_74) rfl rfl ?_
    refine XS.iconst X22.here hx rfl (hb hby d_method_2_75) ?_
    refine XS.iloadN X22.here hx rfl (hb hby d_method_2_76) rfl ?_
    refine st28 _ ?_
    refine st36.trans ?_
    exact retOut X36 hx Bd.returns rfl (Or.inr (Or.inr (Or.inr (Or.inr ⟨rfl, rfl, rfl⟩)))) (hb hby d_method_2_81) hr
  · show Q_rc78_make Z i1 i2 i3 h0 n0 _ T36.heap _
    exact ⟨b1, x36_x2_x3_x13_x1_b2, x36_x2_x3_x13_x1_k2, rfl, N36, K42, s3, s38, q36_0, q36_1, q36_2, q36_3⟩
def Q_rc88_compress (Z : State) (a1 : Addr) (a2 : Addr) (k3 : ClassId) (i4 : Int32) (i5 : Int32) (i6 : Int32) (k7 : ClassId) (h0 : Heap) (n0 : Nat) (v : Option Value) (h : Heap) (L : List Loc) : Prop := v = some (.int (2 : Int32)) ∧ Fr n0 L ∧ Keep h0 h [a2] ∧ Arv Z h a2 k7 .byte (3 : Int32) [(.int (nar .byte (i4.toInt8.toInt32))), (.int (nar .byte (i5.toInt8.toInt32))), (.int (0 : Int32))] (.int (0 : Int32))
set_option maxRecDepth 65536 in
set_option maxHeartbeats 40000000 in
theorem rc88_compress (l : Launch) (Z : State) (a0 : Array Value) (hw : ∀ d ∈ tables_1, d.before a0 Z = true) (ws : List Jvm.Cond) (cs : Int32) (hS : SB Z cs) (a1 : Addr) (a2 : Addr) (k3 : ClassId) (i4 : Int32) (i5 : Int32) (i6 : Int32) (k7 : ClassId) (h0 : Heap) (n0 : Nat) (O0 : Old Z n0 h0) (g_a1 : n0 ≤ a1) (g_a2 : n0 ≤ a2) (V_a1 : Arv Z h0 a1 k3 .char (3 : Int32) [(.int i4), (.int i5), (.int i6)] (.int (0 : Int32))) (V_a2 : Arv Z h0 a2 k7 .byte (3 : Int32) [(.int (0 : Int32)), (.int (0 : Int32)), (.int (0 : Int32))] (.int (0 : Int32))) (hy3 : ¬ (255 : Int32) < i4) (hy4 : ¬ (255 : Int32) < i5) (hy5 : (255 : Int32) < i6) (hy6 : ¬ a1 = a2) :
    Met l my_5 jdk_52_method_21_code 7 (some .int) ws ({ frames := 0, cells := 0, slots := 0, locals := 0 } : Room) #[(.ref a1), (.int (0 : Int32)), (.ref a2), (.int (0 : Int32)), (.int (3 : Int32))] Z h0 (Q_rc88_compress Z a1 a2 k3 i4 i5 i6 k7 h0 n0) := by
  refine MetFree.of_bodySF (plainFor_of_name pn_3) hisR ?_
  intro p e s m args below meth c s₁ Bd hml0 hP hK
  obtain ⟨rfl, hZ, hh⟩ := hP
  have hx := Bd.exec
  have hby := Bd.bytes
  have hml : c.maxLocals = 7 := hml0
  have hown : s.vm.findClass nString_1 = some m.cls := findClass_of_methodNamed Bd.named
  have hnm := (name_of_methodNamed Bd.named Bd.method).1
  have X0 : Stand p l e ({ frames := 0, cells := 0, slots := 0, locals := 0 } : Room) s m #[(.ref a1), (.int (0 : Int32)), (.ref a2), (.int (0 : Int32)), (.int (3 : Int32))] below meth c s₁ [] 0 0 := Stand.of_body Bd
  have e0 : s₁.heap = h0 := by rw [← hh, Bd.state]; rfl
  have N0 := Fr.nil n0
  obtain ⟨f₀, hf₀⟩ : ∃ f, f = entryFrame m #[(.ref a1), (.int (0 : Int32)), (.ref a2), (.int (0 : Int32)), (.int (3 : Int32))] 7 := ⟨_, rfl⟩
  rw [← hf₀]
  have pre0 : Go p e below s₁ f₀ s₁ (mkF m 0 #[.val (.ref a1), .val (.int (0 : Int32)), .val (.ref a2), .val (.int (0 : Int32)), .val (.int (3 : Int32)), .unset, .unset] []) := fun t k => castTop (hf₀.trans (ef_rc88_compress m (a1) ((0 : Int32)) (a2) ((0 : Int32)) ((3 : Int32)))) k
  obtain ⟨c1, Ar1, q1, S1, M1, Hh1, G1⟩ := (id V_a1)
  have hin1 : ¬ ((0 : Int32) < 0 ∨ c1.slots.size ≤ ((0 : Int32)).toNatClampNeg) := inb_of S1 ⟨by decide, by decide⟩
  have hat1 : c1.slots[((0 : Int32)).toNatClampNeg]? = some (.int i4) := Hh1.at hin1 rfl
  obtain ⟨c2, Ar2, q2, S2, M2, Hh2, G2⟩ := (id V_a2)
  have hin2 : ¬ ((0 : Int32) < 0 ∨ c2.slots.size ≤ ((0 : Int32)).toNatClampNeg) := inb_of S2 ⟨by decide, by decide⟩
  obtain ⟨T3, h3, X3, e3, W3, st3⟩ := stB X0 hx hZ e0 Ar2 (j := (0 : Int32)) hin2 (g := (mkF m 31 #[.val (.ref a1), .val (.int (0 : Int32)), .val (.ref a2), .val (.int (0 : Int32)), .val (.int (3 : Int32)), .val (.int (0 : Int32)), .val (.int i4)] [(.int (i4.toInt8.toInt32)), (.int (0 : Int32)), (.ref a2)])) rfl rfl (hb hby d_jdk_52_method_21_31)
  have v4 : Arv Z h3 a2 k7 .byte (3 : Int32) [(.int (nar .byte (i4.toInt8.toInt32))), (.int (0 : Int32)), (.int (0 : Int32))] (.int (0 : Int32)) := Arv.set Ar2 q2 S2 M2 Hh2 G2 (fits_nar_byte _) W3 0 rfl (Nat.le_of_ble_eq_true rfl)
  have N3 := Fr.snoc X3 N0 g_a2
  have O5 : Old Z n0 h3 := Old.wr O0 W3 g_a2
  have K6 : Keep h0 h3 [a2] := (Keep.refl h0 [a2]).wr W3 (Or.inl (List.mem_of_getElem? (i := 0) rfl))
  have t7 : Arv Z h3 a1 k3 .char (3 : Int32) [(.int i4), (.int i5), (.int i6)] (.int (0 : Int32)) := (V_a1.other W3 hy6)
  obtain ⟨c8, Ar8, q8, S8, M8, Hh8, G8⟩ := (id t7)
  have hin8 : ¬ ((1 : Int32) < 0 ∨ c8.slots.size ≤ ((1 : Int32)).toNatClampNeg) := inb_of S8 ⟨by decide, by decide⟩
  have hat8 : c8.slots[((1 : Int32)).toNatClampNeg]? = some (.int i5) := Hh8.at hin8 rfl
  obtain ⟨c9, Ar9, q9, S9, M9, Hh9, G9⟩ := (id v4)
  have hin9 : ¬ ((1 : Int32) < 0 ∨ c9.slots.size ≤ ((1 : Int32)).toNatClampNeg) := inb_of S9 ⟨by decide, by decide⟩
  obtain ⟨T10, h10, X10, e10, W10, st10⟩ := stB X3 hx hZ e3 Ar9 (j := (1 : Int32)) hin9 (g := (mkF m 31 #[.val (.ref a1), .val (.int (1 : Int32)), .val (.ref a2), .val (.int (1 : Int32)), .val (.int (3 : Int32)), .val (.int (1 : Int32)), .val (.int i5)] [(.int (i5.toInt8.toInt32)), (.int (1 : Int32)), (.ref a2)])) rfl rfl (hb hby d_jdk_52_method_21_31)
  have v11 : Arv Z h10 a2 k7 .byte (3 : Int32) [(.int (nar .byte (i4.toInt8.toInt32))), (.int (nar .byte (i5.toInt8.toInt32))), (.int (0 : Int32))] (.int (0 : Int32)) := Arv.set Ar9 q9 S9 M9 Hh9 G9 (fits_nar_byte _) W10 1 rfl (Nat.le_of_ble_eq_true rfl)
  have N10 := Fr.snoc X10 N3 g_a2
  have O12 : Old Z n0 h10 := Old.wr O5 W10 g_a2
  have K13 : Keep h0 h10 [a2] := K6.wr W10 (Or.inl (List.mem_of_getElem? (i := 0) rfl))
  have t14 : Arv Z h10 a1 k3 .char (3 : Int32) [(.int i4), (.int i5), (.int i6)] (.int (0 : Int32)) := (t7.other W10 hy6)
  obtain ⟨c15, Ar15, q15, S15, M15, Hh15, G15⟩ := (id t14)
  have hin15 : ¬ ((2 : Int32) < 0 ∨ c15.slots.size ≤ ((2 : Int32)).toNatClampNeg) := inb_of S15 ⟨by decide, by decide⟩
  have hat15 : c15.slots[((2 : Int32)).toNatClampNeg]? = some (.int i6) := Hh15.at hin15 rfl
  obtain ⟨fs, hr, hrun, hended, hW, hsame⟩ := X10.leave (v := (some (.int (2 : Int32)))) (fun h => by rw [Bd.returns] at h; cases h)
  refine ⟨_, _, pre0 _ ?_, hrun, hended, _, _, rfl, ?_, ⟨_, rfl⟩, hW, hsame.mono (by decide) (by decide)⟩
  · refine XS.iconst X0.here hx rfl (hb hby d_jdk_52_method_21_0) ?_
    refine XS.istore X0.here hx rfl (hb hby d_jdk_52_method_21_1) rfl (l' := #[.val (.ref a1), .val (.int (0 : Int32)), .val (.ref a2), .val (.int (0 : Int32)), .val (.int (3 : Int32)), .val (.int (0 : Int32)), .unset]) rfl ?_
    refine XS.iload X0.here hx rfl (hb hby d_jdk_52_method_21_3) rfl ?_
    refine XS.iload X0.here hx rfl (hb hby d_jdk_52_method_21_5) rfl ?_
    refine XS.icmpNo X0.here hx rfl (hb hby d_jdk_52_method_21_7) rfl (tlt (by decide : (0 : Int32) < (3 : Int32))).2.1 ?_
    refine XS.aloadN X0.here hx rfl (hb hby d_jdk_52_method_21_10) rfl rfl ?_
    refine XS.iloadN X0.here hx rfl (hb hby d_jdk_52_method_21_11) rfl ?_
    refine X0.caload hx (j := (0 : Int32)) (v := (.int i4)) (by rw [e0]; exact Ar1.1) (State.isArrayOf_alike hZ.alike Ar1.2.1) Ar1.2.2 hin1 hat1 (g := (mkF m 12 #[.val (.ref a1), .val (.int (0 : Int32)), .val (.ref a2), .val (.int (0 : Int32)), .val (.int (3 : Int32)), .val (.int (0 : Int32)), .unset] [(.int (0 : Int32)), (.ref a1)])) rfl rfl (hb hby d_jdk_52_method_21_12) _ ?_
    refine XS.istore X0.here hx rfl (hb hby d_jdk_52_method_21_13) rfl (l' := #[.val (.ref a1), .val (.int (0 : Int32)), .val (.ref a2), .val (.int (0 : Int32)), .val (.int (3 : Int32)), .val (.int (0 : Int32)), .val (.int i4)]) rfl ?_
    refine XS.iload X0.here hx rfl (hb hby d_jdk_52_method_21_15) rfl ?_
    refine XS.sipush X0.here hx rfl (hb hby d_jdk_52_method_21_17) ?_
    refine XS.icmpYes X0.here hx rfl (pc0 := 20) (pc' := 26) rfl (hb hby d_jdk_52_method_21_20) rfl (flt hy3).2.2.2 (by decide) (by decide) ?_
    refine XS.aloadN X0.here hx rfl (hb hby d_jdk_52_method_21_26) rfl rfl ?_
    refine XS.iloadN X0.here hx rfl (hb hby d_jdk_52_method_21_27) rfl ?_
    refine XS.iload X0.here hx rfl (hb hby d_jdk_52_method_21_28) rfl ?_
    refine XS.i2b X0.here hx rfl (hb hby d_jdk_52_method_21_30) rfl ?_
    refine st3 _ ?_
    refine XS.iinc X3.here hx rfl (hb hby d_jdk_52_method_21_32) rfl (l' := #[.val (.ref a1), .val (.int (1 : Int32)), .val (.ref a2), .val (.int (0 : Int32)), .val (.int (3 : Int32)), .val (.int (0 : Int32)), .val (.int i4)]) rfl ?_
    refine XS.iinc X3.here hx rfl (hb hby d_jdk_52_method_21_35) rfl (l' := #[.val (.ref a1), .val (.int (1 : Int32)), .val (.ref a2), .val (.int (1 : Int32)), .val (.int (3 : Int32)), .val (.int (0 : Int32)), .val (.int i4)]) rfl ?_
    refine XS.iinc X3.here hx rfl (hb hby d_jdk_52_method_21_38) rfl (l' := #[.val (.ref a1), .val (.int (1 : Int32)), .val (.ref a2), .val (.int (1 : Int32)), .val (.int (3 : Int32)), .val (.int (1 : Int32)), .val (.int i4)]) rfl ?_
    refine XS.goto X3.here hx rfl (pc0 := 41) (pc' := 3) rfl (hb hby d_jdk_52_method_21_41) (by decide) (by decide) ?_
    refine XS.iload X3.here hx rfl (hb hby d_jdk_52_method_21_3) rfl ?_
    refine XS.iload X3.here hx rfl (hb hby d_jdk_52_method_21_5) rfl ?_
    refine XS.icmpNo X3.here hx rfl (hb hby d_jdk_52_method_21_7) rfl (tlt (by decide : (1 : Int32) < (3 : Int32))).2.1 ?_
    refine XS.aloadN X3.here hx rfl (hb hby d_jdk_52_method_21_10) rfl rfl ?_
    refine XS.iloadN X3.here hx rfl (hb hby d_jdk_52_method_21_11) rfl ?_
    refine X3.caload hx (j := (1 : Int32)) (v := (.int i5)) (by rw [e3]; exact Ar8.1) (State.isArrayOf_alike hZ.alike Ar8.2.1) Ar8.2.2 hin8 hat8 (g := (mkF m 12 #[.val (.ref a1), .val (.int (1 : Int32)), .val (.ref a2), .val (.int (1 : Int32)), .val (.int (3 : Int32)), .val (.int (1 : Int32)), .val (.int i4)] [(.int (1 : Int32)), (.ref a1)])) rfl rfl (hb hby d_jdk_52_method_21_12) _ ?_
    refine XS.istore X3.here hx rfl (hb hby d_jdk_52_method_21_13) rfl (l' := #[.val (.ref a1), .val (.int (1 : Int32)), .val (.ref a2), .val (.int (1 : Int32)), .val (.int (3 : Int32)), .val (.int (1 : Int32)), .val (.int i5)]) rfl ?_
    refine XS.iload X3.here hx rfl (hb hby d_jdk_52_method_21_15) rfl ?_
    refine XS.sipush X3.here hx rfl (hb hby d_jdk_52_method_21_17) ?_
    refine XS.icmpYes X3.here hx rfl (pc0 := 20) (pc' := 26) rfl (hb hby d_jdk_52_method_21_20) rfl (flt hy4).2.2.2 (by decide) (by decide) ?_
    refine XS.aloadN X3.here hx rfl (hb hby d_jdk_52_method_21_26) rfl rfl ?_
    refine XS.iloadN X3.here hx rfl (hb hby d_jdk_52_method_21_27) rfl ?_
    refine XS.iload X3.here hx rfl (hb hby d_jdk_52_method_21_28) rfl ?_
    refine XS.i2b X3.here hx rfl (hb hby d_jdk_52_method_21_30) rfl ?_
    refine st10 _ ?_
    refine XS.iinc X10.here hx rfl (hb hby d_jdk_52_method_21_32) rfl (l' := #[.val (.ref a1), .val (.int (2 : Int32)), .val (.ref a2), .val (.int (1 : Int32)), .val (.int (3 : Int32)), .val (.int (1 : Int32)), .val (.int i5)]) rfl ?_
    refine XS.iinc X10.here hx rfl (hb hby d_jdk_52_method_21_35) rfl (l' := #[.val (.ref a1), .val (.int (2 : Int32)), .val (.ref a2), .val (.int (2 : Int32)), .val (.int (3 : Int32)), .val (.int (1 : Int32)), .val (.int i5)]) rfl ?_
    refine XS.iinc X10.here hx rfl (hb hby d_jdk_52_method_21_38) rfl (l' := #[.val (.ref a1), .val (.int (2 : Int32)), .val (.ref a2), .val (.int (2 : Int32)), .val (.int (3 : Int32)), .val (.int (2 : Int32)), .val (.int i5)]) rfl ?_
    refine XS.goto X10.here hx rfl (pc0 := 41) (pc' := 3) rfl (hb hby d_jdk_52_method_21_41) (by decide) (by decide) ?_
    refine XS.iload X10.here hx rfl (hb hby d_jdk_52_method_21_3) rfl ?_
    refine XS.iload X10.here hx rfl (hb hby d_jdk_52_method_21_5) rfl ?_
    refine XS.icmpNo X10.here hx rfl (hb hby d_jdk_52_method_21_7) rfl (tlt (by decide : (2 : Int32) < (3 : Int32))).2.1 ?_
    refine XS.aloadN X10.here hx rfl (hb hby d_jdk_52_method_21_10) rfl rfl ?_
    refine XS.iloadN X10.here hx rfl (hb hby d_jdk_52_method_21_11) rfl ?_
    refine X10.caload hx (j := (2 : Int32)) (v := (.int i6)) (by rw [e10]; exact Ar15.1) (State.isArrayOf_alike hZ.alike Ar15.2.1) Ar15.2.2 hin15 hat15 (g := (mkF m 12 #[.val (.ref a1), .val (.int (2 : Int32)), .val (.ref a2), .val (.int (2 : Int32)), .val (.int (3 : Int32)), .val (.int (2 : Int32)), .val (.int i5)] [(.int (2 : Int32)), (.ref a1)])) rfl rfl (hb hby d_jdk_52_method_21_12) _ ?_
    refine XS.istore X10.here hx rfl (hb hby d_jdk_52_method_21_13) rfl (l' := #[.val (.ref a1), .val (.int (2 : Int32)), .val (.ref a2), .val (.int (2 : Int32)), .val (.int (3 : Int32)), .val (.int (2 : Int32)), .val (.int i6)]) rfl ?_
    refine XS.iload X10.here hx rfl (hb hby d_jdk_52_method_21_15) rfl ?_
    refine XS.sipush X10.here hx rfl (hb hby d_jdk_52_method_21_17) ?_
    refine XS.icmpNo X10.here hx rfl (hb hby d_jdk_52_method_21_20) rfl (tlt hy5).2.2.2 ?_
    refine XS.iload X10.here hx rfl (hb hby d_jdk_52_method_21_23) rfl ?_
    exact retI X10 hx Bd.returns (hb hby d_jdk_52_method_21_25) hr
  · show Q_rc88_compress Z a1 a2 k3 i4 i5 i6 k7 h0 n0 _ T10.heap _
    rw [e10]
    exact ⟨rfl, N10, K13, v11⟩
def Q_rc89_getChar (Z : State) (a1 : Addr) (k2 : ClassId) (i3 : Int32) (i4 : Int32) (i5 : Int32) (i6 : Int32) (i7 : Int32) (i8 : Int32) (h0 : Heap) (n0 : Nat) (v : Option Value) (h : Heap) (L : List Loc) : Prop := v = some (.int (nar .char ((((i7 &&& (255 : Int32)) <<< ((0 : Int32) &&& 31)) ||| ((i8 &&& (255 : Int32)) <<< ((8 : Int32) &&& 31))).toUInt32.toUInt16.toUInt32.toInt32))) ∧ Fr n0 L ∧ h = h0
set_option maxRecDepth 65536 in
set_option maxHeartbeats 40000000 in
theorem rc89_getChar (l : Launch) (Z : State) (a0 : Array Value) (hw : ∀ d ∈ tables_1, d.before a0 Z = true) (ws : List Jvm.Cond) (cs : Int32) (hS : SB Z cs) (a1 : Addr) (k2 : ClassId) (i3 : Int32) (i4 : Int32) (i5 : Int32) (i6 : Int32) (i7 : Int32) (i8 : Int32) (h0 : Heap) (n0 : Nat) (O0 : Old Z n0 h0) (g_a1 : n0 ≤ a1) (V_a1 : Arv Z h0 a1 k2 .byte (6 : Int32) [(.int i3), (.int i4), (.int i5), (.int i6), (.int i7), (.int i8)] (.int (0 : Int32))) :
    Met l my_10 jdk_52_method_5_code 2 (some .char) ws ({ frames := 0, cells := 0, slots := 0, locals := 0 } : Room) #[(.ref a1), (.int (2 : Int32))] Z h0 (Q_rc89_getChar Z a1 k2 i3 i4 i5 i6 i7 i8 h0 n0) := by
  refine MetFree.of_bodySF (plainFor_of_name pn_3) hisR ?_
  intro p e s m args below meth c s₁ Bd hml0 hP hK
  obtain ⟨rfl, hZ, hh⟩ := hP
  have hx := Bd.exec
  have hby := Bd.bytes
  have hml : c.maxLocals = 2 := hml0
  have hown : s.vm.findClass nString_1 = some m.cls := findClass_of_methodNamed Bd.named
  have hnm := (name_of_methodNamed Bd.named Bd.method).1
  have X0 : Stand p l e ({ frames := 0, cells := 0, slots := 0, locals := 0 } : Room) s m #[(.ref a1), (.int (2 : Int32))] below meth c s₁ [] 0 0 := Stand.of_body Bd
  have e0 : s₁.heap = h0 := by rw [← hh, Bd.state]; rfl
  have N0 := Fr.nil n0
  obtain ⟨f₀, hf₀⟩ : ∃ f, f = entryFrame m #[(.ref a1), (.int (2 : Int32))] 2 := ⟨_, rfl⟩
  rw [← hf₀]
  have pre0 : Go p e below s₁ f₀ s₁ (mkF m 0 #[.val (.ref a1), .val (.int (2 : Int32))] []) := fun t k => castTop (hf₀.trans (ef_rc89_getChar m (a1) ((2 : Int32)))) k
  obtain ⟨T1, X1, e1, st1⟩ := getS2 X0 hx hZ hown (host := "") (Or.inl (wq hw 71 rfl)) Via.refl e0 (hS.2.2.1.ext O0.2) (g := (mkF m 0 #[.val (.ref a1), .val (.int (2 : Int32))] [])) rfl (hb hby d_jdk_52_method_5_0)
  obtain ⟨c2, Ar2, q2, S2, M2, Hh2, G2⟩ := (id V_a1)
  have hin2 : ¬ ((4 : Int32) < 0 ∨ c2.slots.size ≤ ((4 : Int32)).toNatClampNeg) := inb_of S2 ⟨by decide, by decide⟩
  have hat2 : c2.slots[((4 : Int32)).toNatClampNeg]? = some (.int i7) := Hh2.at hin2 rfl
  obtain ⟨T3, X3, e3, st3⟩ := getS2 X1 hx hZ hown (host := "") (Or.inl (wq hw 72 rfl)) Via.refl e1 (hS.2.2.2.1.ext O0.2) (g := (mkF m 42 #[.val (.ref a1), .val (.int (5 : Int32))] [(.int (i7 &&& (255 : Int32)))])) rfl (hb hby d_jdk_52_method_5_42)
  obtain ⟨c4, Ar4, q4, S4, M4, Hh4, G4⟩ := (id V_a1)
  have hin4 : ¬ ((5 : Int32) < 0 ∨ c4.slots.size ≤ ((5 : Int32)).toNatClampNeg) := inb_of S4 ⟨by decide, by decide⟩
  have hat4 : c4.slots[((5 : Int32)).toNatClampNeg]? = some (.int i8) := Hh4.at hin4 rfl
  obtain ⟨T5, X5, e5, st5⟩ := getS2 X3 hx hZ hown (host := "") (Or.inl (wq hw 73 rfl)) Via.refl e3 (hS.2.2.2.2.ext O0.2) (g := (mkF m 53 #[.val (.ref a1), .val (.int (5 : Int32))] [(.int (i8 &&& (255 : Int32))), (.int ((i7 &&& (255 : Int32)) <<< ((0 : Int32) &&& 31)))])) rfl (hb hby d_jdk_52_method_5_53)
  obtain ⟨fs, hr, hrun, hended, hW, hsame⟩ := X5.leave (v := (some (.int (nar .char ((((i7 &&& (255 : Int32)) <<< ((0 : Int32) &&& 31)) ||| ((i8 &&& (255 : Int32)) <<< ((8 : Int32) &&& 31))).toUInt32.toUInt16.toUInt32.toInt32))))) (fun h => by rw [Bd.returns] at h; cases h)
  refine ⟨_, _, pre0 _ ?_, hrun, hended, _, _, rfl, ?_, ⟨_, rfl⟩, hW, hsame.mono (by decide) (by decide)⟩
  · refine st1 _ ?_
    refine XS.ifYes X1.here hx rfl (pc0 := 3) (pc' := 28) rfl (hb hby d_jdk_52_method_5_3) rfl ((if0 _ _).trans (feq (by decide : ¬ ((1 : Int32) = (0 : Int32)))).2) (by decide) (by decide) ?_
    refine XS.iloadN X1.here hx rfl (hb hby d_jdk_52_method_5_28) rfl ?_
    refine XS.iconst X1.here hx rfl (hb hby d_jdk_52_method_5_29) ?_
    refine XS.ishl X1.here hx rfl (hb hby d_jdk_52_method_5_30) rfl ?_
    show Steps p.tables e below (T1.setTop (mkF m 31 #[.val (.ref a1), .val (.int (2 : Int32))] [(.int (4 : Int32))])) _
    refine XS.istoreN X1.here hx rfl (hb hby d_jdk_52_method_5_31) rfl (l' := #[.val (.ref a1), .val (.int (4 : Int32))]) rfl ?_
    refine XS.aloadN X1.here hx rfl (hb hby d_jdk_52_method_5_32) rfl rfl ?_
    refine XS.iloadN X1.here hx rfl (hb hby d_jdk_52_method_5_33) rfl ?_
    refine XS.iinc X1.here hx rfl (hb hby d_jdk_52_method_5_34) rfl (l' := #[.val (.ref a1), .val (.int (5 : Int32))]) rfl ?_
    refine X1.baloadBytes hx (j := (4 : Int32)) (v := (.int i7)) (by rw [e1]; exact Ar2.1) (State.isArrayOf_alike hZ.alike Ar2.2.1) Ar2.2.2 hin2 hat2 (g := (mkF m 37 #[.val (.ref a1), .val (.int (5 : Int32))] [(.int (4 : Int32)), (.ref a1)])) rfl rfl (hb hby d_jdk_52_method_5_37) _ ?_
    refine XS.sipush X1.here hx rfl (hb hby d_jdk_52_method_5_38) ?_
    refine XS.iand X1.here hx rfl (hb hby d_jdk_52_method_5_41) rfl ?_
    refine st3 _ ?_
    refine XS.ishl X3.here hx rfl (hb hby d_jdk_52_method_5_45) rfl ?_
    refine XS.aloadN X3.here hx rfl (hb hby d_jdk_52_method_5_46) rfl rfl ?_
    refine XS.iloadN X3.here hx rfl (hb hby d_jdk_52_method_5_47) rfl ?_
    refine X3.baloadBytes hx (j := (5 : Int32)) (v := (.int i8)) (by rw [e3]; exact Ar4.1) (State.isArrayOf_alike hZ.alike Ar4.2.1) Ar4.2.2 hin4 hat4 (g := (mkF m 48 #[.val (.ref a1), .val (.int (5 : Int32))] [(.int (5 : Int32)), (.ref a1), (.int ((i7 &&& (255 : Int32)) <<< ((0 : Int32) &&& 31)))])) rfl rfl (hb hby d_jdk_52_method_5_48) _ ?_
    refine XS.sipush X3.here hx rfl (hb hby d_jdk_52_method_5_49) ?_
    refine XS.iand X3.here hx rfl (hb hby d_jdk_52_method_5_52) rfl ?_
    refine st5 _ ?_
    refine XS.ishl X5.here hx rfl (hb hby d_jdk_52_method_5_56) rfl ?_
    refine XS.ior X5.here hx rfl (hb hby d_jdk_52_method_5_57) rfl ?_
    refine XS.i2c X5.here hx rfl (hb hby d_jdk_52_method_5_58) rfl ?_
    exact retN X5 hx (t := .char) Bd.returns (by simp) (hb hby d_jdk_52_method_5_59) hr
  · show Q_rc89_getChar Z a1 k2 i3 i4 i5 i6 i7 i8 h0 n0 _ T5.heap _
    rw [e5]
    exact ⟨rfl, N0, rfl⟩
def Q_rc87_compress (Z : State) (a1 : Addr) (k2 : ClassId) (i3 : Int32) (i4 : Int32) (i5 : Int32) (h0 : Heap) (n0 : Nat) (v : Option Value) (h : Heap) (L : List Loc) : Prop := ∃ (x13_x1_b2 : Addr), ∃ (x13_x1_k2 : ClassId), v = some (.ref x13_x1_b2) ∧ Fr n0 L ∧ Keep h0 h [] ∧ h0.size ≤ x13_x1_b2 ∧ Arv Z h x13_x1_b2 x13_x1_k2 .byte (6 : Int32) [(.int (nar .byte ((i3 >>> ((0 : Int32) &&& 31)).toInt8.toInt32))), (.int (nar .byte ((i3 >>> ((8 : Int32) &&& 31)).toInt8.toInt32))), (.int (nar .byte ((i4 >>> ((0 : Int32) &&& 31)).toInt8.toInt32))), (.int (nar .byte ((i4 >>> ((8 : Int32) &&& 31)).toInt8.toInt32))), (.int (nar .byte ((i5 >>> ((0 : Int32) &&& 31)).toInt8.toInt32))), (.int (nar .byte ((i5 >>> ((8 : Int32) &&& 31)).toInt8.toInt32)))] (.int (0 : Int32))
set_option maxRecDepth 65536 in
set_option maxHeartbeats 40000000 in
theorem rc87_compress (l : Launch) (Z : State) (a0 : Array Value) (hw : ∀ d ∈ tables_1, d.before a0 Z = true) (ws : List Jvm.Cond) (cs : Int32) (hS : SB Z cs) (a1 : Addr) (k2 : ClassId) (i3 : Int32) (i4 : Int32) (i5 : Int32) (h0 : Heap) (n0 : Nat) (O0 : Old Z n0 h0) (g_a1 : n0 ≤ a1) (V_a1 : Arv Z h0 a1 k2 .char (3 : Int32) [(.int i3), (.int i4), (.int i5)] (.int (0 : Int32))) (hy2 : nar .char i5 = i5) (hy3 : ¬ (255 : Int32) < i3) (hy4 : ¬ (255 : Int32) < i4) (hy5 : (255 : Int32) < i5) :
    Met l my_11 jdk_52_method_16_code 6 (some (.array .byte)) ws ({ frames := 3, cells := 2, slots := 9, locals := 40 } : Room) #[(.ref a1), (.int (0 : Int32)), (.int (3 : Int32))] Z h0 (Q_rc87_compress Z a1 k2 i3 i4 i5 h0 n0) := by
  refine MetFree.of_bodySF (plainFor_of_name pn_3) hisR ?_
  intro p e s m args below meth c s₁ Bd hml0 hP hK
  obtain ⟨rfl, hZ, hh⟩ := hP
  have hx := Bd.exec
  have hby := Bd.bytes
  have hml : c.maxLocals = 6 := hml0
  have hown : s.vm.findClass nString_1 = some m.cls := findClass_of_methodNamed Bd.named
  have hnm := (name_of_methodNamed Bd.named Bd.method).1
  have X0 : Stand p l e ({ frames := 3, cells := 2, slots := 9, locals := 40 } : Room) s m #[(.ref a1), (.int (0 : Int32)), (.int (3 : Int32))] below meth c s₁ [] 0 0 := Stand.of_body Bd
  have e0 : s₁.heap = h0 := by rw [← hh, Bd.state]; rfl
  have N0 := Fr.nil n0
  obtain ⟨f₀, hf₀⟩ : ∃ f, f = entryFrame m #[(.ref a1), (.int (0 : Int32)), (.int (3 : Int32))] 6 := ⟨_, rfl⟩
  rw [← hf₀]
  have pre0 : Go p e below s₁ f₀ s₁ (mkF m 0 #[.val (.ref a1), .val (.int (0 : Int32)), .val (.int (3 : Int32)), .unset, .unset, .unset] []) := fun t k => castTop (hf₀.trans (ef_rc87_compress m (a1) ((0 : Int32)) ((3 : Int32)))) k
  obtain ⟨T1, h1, k1, X1, e1, E1, A1, st1⟩ := newP X0 hx hZ (wq hw 20 rfl) e0 (g := (mkF m 1 #[.val (.ref a1), .val (.int (0 : Int32)), .val (.int (3 : Int32)), .unset, .unset, .unset] [(.int (3 : Int32))])) rfl (hb hby d_jdk_52_method_16_1) rfl (by decide) (cap := 3) (by decide) (by decide) (by decide) (by decide)
  obtain ⟨b1, gb1⟩ : ∃ z, z = h0.size := ⟨_, rfl⟩
  rw [← gb1] at A1 st1
  have ne2 : a1 ≠ b1 := Nat.ne_of_lt (Nat.lt_of_lt_of_le V_a1.lt (Nat.le_of_eq gb1.symm))
  have g3 : n0 ≤ b1 := Nat.le_trans (Nat.le_of_eq O0.1.symm) (Nat.le_trans O0.2.1 (Nat.le_of_eq gb1.symm))
  have s4 : h0.size ≤ b1 := Nat.le_trans (Keep.refl h0 []).1 (Nat.le_of_eq gb1.symm)
  have O5 : Old Z n0 h1 := Old.ext O0 E1
  have K6 : Keep h0 h1 [] := (Keep.refl h0 []).ext E1
  have v7 : Arv Z h1 b1 k1 .byte (3 : Int32) [(.int (0 : Int32)), (.int (0 : Int32)), (.int (0 : Int32))] (.int (0 : Int32)) := (Arv.new A1 (by decide)).pad (pad_rep [] (.int (0 : Int32)) 3)
  have t8 : Arv Z h1 a1 k2 .char (3 : Int32) [(.int i3), (.int i4), (.int i5)] (.int (0 : Int32)) := (V_a1.ext E1)
  obtain ⟨_, _, ⟨T9, L9, k9, n9⟩, -, X9, ⟨Lc9, hQ9, l9, y9, z9⟩, st9⟩ := Jvm.LawKit.callS X1 hx (y := my_5) hown (mvT hZ (wq hw 41 rfl)) (mvT hZ (wq hw 42 rfl)) (mvT hZ (wq hw 39 rfl)) (mvT hZ (wq hw 43 rfl)) (by decide) (backOf (W := 0) (rc88_compress l Z a0 hw [] cs hS a1 b1 k2 i3 i4 i5 k1 h1 n0 O5 g_a1 g3 t8 v7 hy3 hy4 hy5 ne2) hZ (wq hw 43 rfl) (wq hw 39 rfl) (by decide) (by decide)) (g := (mkF m 9 #[.val (.ref a1), .val (.int (0 : Int32)), .val (.int (3 : Int32)), .val (.ref b1), .unset, .unset] [(.int (3 : Int32)), (.int (0 : Int32)), (.ref b1), (.int (0 : Int32)), (.ref a1)])) rfl (by rw [hml]; rfl) (argsL := [(.ref a1), (.int (0 : Int32)), (.ref b1), (.int (0 : Int32)), (.int (3 : Int32))]) (rest := []) (lenOf pd_5 rfl) rfl (by show 2 * 0 + _ ≤ _; exact Nat.le_of_eq rfl) (hb hby d_jdk_52_method_16_9) (fun _ _ => ⟨rfl, e1, (by decide : 1 + 0 ≤ _), (by decide : 3 + 0 ≤ _)⟩)
  dsimp only [Pt.U, Pt.locs, Pt.cells, Pt.slots] at X9 l9 y9 z9 st9 hQ9
  have X9 := own_to X9 l9 y9 z9
  obtain ⟨rfl, N9q, K9, q9_0⟩ := hQ9
  have N9 := Fr.app N0 N9q
  have O10 : Old Z n0 T9.heap := Old.keep O5 K9 (allS g3 all0)
  have K11 : Keep h0 T9.heap [] := K6.trans K9 (allS (Or.inr s4) all0)
  have t12 : Arv Z T9.heap a1 k2 .char (3 : Int32) [(.int i3), (.int i4), (.int i5)] (.int (0 : Int32)) := (t8.keep K9 (ninS ne2 nin0))
  obtain ⟨_, _, ⟨T13, L13, k13, n13⟩, -, X13, ⟨Lc13, hQ13, l13, y13, z13⟩, st13⟩ := Jvm.LawKit.callS X9 hx (y := my_9) hown (mvT hZ (wq hw 58 rfl)) (mvT hZ (wq hw 59 rfl)) (mvT hZ (wq hw 39 rfl)) (mvT hZ (wq hw 60 rfl)) (by decide) (backOf (W := 0) (rc68_toBytes l Z a0 hw [] cs hS a1 k2 i3 i4 i5 T9.heap n0 O10 g_a1 t12) hZ (wq hw 60 rfl) (wq hw 39 rfl) (by decide) (by decide)) (g := (mkF m 23 #[.val (.ref a1), .val (.int (0 : Int32)), .val (.int (3 : Int32)), .val (.ref b1), .val (.int (2 : Int32)), .unset] [(.int (3 : Int32)), (.int (0 : Int32)), (.ref a1)])) rfl (by rw [hml]; rfl) (argsL := [(.ref a1), (.int (0 : Int32)), (.int (3 : Int32))]) (rest := []) (lenOf pd_9 rfl) rfl (by show 2 * 0 + _ ≤ _; exact Nat.le_of_eq rfl) (hb hby d_jdk_52_method_16_23) (fun _ _ => ⟨rfl, rfl, (by decide : 1 + 1 ≤ _), (by decide : 3 + 6 ≤ _)⟩)
  dsimp only [Pt.U, Pt.locs, Pt.cells, Pt.slots] at X13 l13 y13 z13 st13 hQ13
  have X13 := own_to X13 l13 y13 z13
  obtain ⟨x13_x1_b2, x13_x1_k2, rfl, N13q, K13, sz13_x1_b2, q13_0⟩ := hQ13
  have N13 := Fr.app N9 N13q
  have g14 : n0 ≤ x13_x1_b2 := Nat.le_trans (Nat.le_of_eq O10.1.symm) (Nat.le_trans O10.2.1 sz13_x1_b2)
  have s15 : h0.size ≤ x13_x1_b2 := Nat.le_trans K11.1 sz13_x1_b2
  have ne16 : a1 ≠ x13_x1_b2 := Nat.ne_of_lt (Nat.lt_of_lt_of_le t12.lt sz13_x1_b2)
  have ne17 : b1 ≠ x13_x1_b2 := Nat.ne_of_lt (Nat.lt_of_lt_of_le q9_0.lt sz13_x1_b2)
  have O18 : Old Z n0 T13.heap := Old.keep O10 K13 all0
  have K19 : Keep h0 T13.heap [] := K11.trans K13 all0
  obtain ⟨_, _, ⟨T20, L20, k20, n20⟩, -, X20, ⟨Lc20, hQ20, l20, y20, z20⟩, st20⟩ := Jvm.LawKit.callS X13 hx (y := my_10) hown (mvT hZ (wq hw 74 rfl)) (mvT hZ (wq hw 75 rfl)) (mvT hZ (wq hw 39 rfl)) (mvT hZ (wq hw 76 rfl)) (by decide) (backOf (W := 0) (rc89_getChar l Z a0 hw [] cs hS x13_x1_b2 x13_x1_k2 (nar .byte ((i3 >>> ((0 : Int32) &&& 31)).toInt8.toInt32)) (nar .byte ((i3 >>> ((8 : Int32) &&& 31)).toInt8.toInt32)) (nar .byte ((i4 >>> ((0 : Int32) &&& 31)).toInt8.toInt32)) (nar .byte ((i4 >>> ((8 : Int32) &&& 31)).toInt8.toInt32)) (nar .byte ((i5 >>> ((0 : Int32) &&& 31)).toInt8.toInt32)) (nar .byte ((i5 >>> ((8 : Int32) &&& 31)).toInt8.toInt32)) T13.heap n0 O18 g14 q13_0) hZ (wq hw 76 rfl) (wq hw 39 rfl) (by decide) (by decide)) (g := (mkF m 32 #[.val (.ref a1), .val (.int (0 : Int32)), .val (.int (3 : Int32)), .val (.ref b1), .val (.int (2 : Int32)), .val (.ref x13_x1_b2)] [(.int (2 : Int32)), (.ref x13_x1_b2)])) rfl (by rw [hml]; rfl) (argsL := [(.ref x13_x1_b2), (.int (2 : Int32))]) (rest := []) (lenOf pd_10 rfl) rfl (by show 2 * 0 + _ ≤ _; exact Nat.le_of_eq rfl) (hb hby d_jdk_52_method_16_32) (fun _ _ => ⟨rfl, rfl, (by decide : 2 + 0 ≤ _), (by decide : 9 + 0 ≤ _)⟩)
  dsimp only [Pt.U, Pt.locs, Pt.cells, Pt.slots] at X20 l20 y20 z20 st20 hQ20
  have X20 := own_to X20 l20 y20 z20
  obtain ⟨rfl, N20q, e20⟩ := hQ20
  have N20 := Fr.app N13 N20q
  obtain ⟨fs, hr, hrun, hended, hW, hsame⟩ := X20.leave (v := (some (.ref x13_x1_b2))) (fun h => by rw [Bd.returns] at h; cases h)
  refine ⟨_, _, pre0 _ ?_, hrun, hended, _, _, rfl, ?_, ⟨_, rfl⟩, hW, hsame.mono (by decide) (by decide)⟩
  · refine XS.iloadN X0.here hx rfl (hb hby d_jdk_52_method_16_0) rfl ?_
    refine st1 _ ?_
    refine XS.astoreN X1.here hx rfl (hb hby d_jdk_52_method_16_3) rfl rfl (l' := #[.val (.ref a1), .val (.int (0 : Int32)), .val (.int (3 : Int32)), .val (.ref b1), .unset, .unset]) rfl ?_
    refine XS.aloadN X1.here hx rfl (hb hby d_jdk_52_method_16_4) rfl rfl ?_
    refine XS.iloadN X1.here hx rfl (hb hby d_jdk_52_method_16_5) rfl ?_
    refine XS.aloadN X1.here hx rfl (hb hby d_jdk_52_method_16_6) rfl rfl ?_
    refine XS.iconst X1.here hx rfl (hb hby d_jdk_52_method_16_7) ?_
    refine XS.iloadN X1.here hx rfl (hb hby d_jdk_52_method_16_8) rfl ?_
    refine st9 _ ?_
    refine XS.istore X9.here hx rfl (hb hby d_jdk_52_method_16_12) rfl (l' := #[.val (.ref a1), .val (.int (0 : Int32)), .val (.int (3 : Int32)), .val (.ref b1), .val (.int (2 : Int32)), .unset]) rfl ?_
    refine XS.iload X9.here hx rfl (hb hby d_jdk_52_method_16_14) rfl ?_
    refine XS.iloadN X9.here hx rfl (hb hby d_jdk_52_method_16_16) rfl ?_
    refine XS.icmpNo X9.here hx rfl (hb hby d_jdk_52_method_16_17) rfl (feq (by decide : ¬ ((2 : Int32) = (3 : Int32)))).1 ?_
    refine XS.aloadN X9.here hx rfl (hb hby d_jdk_52_method_16_20) rfl rfl ?_
    refine XS.iloadN X9.here hx rfl (hb hby d_jdk_52_method_16_21) rfl ?_
    refine XS.iloadN X9.here hx rfl (hb hby d_jdk_52_method_16_22) rfl ?_
    refine st13 _ ?_
    refine XS.astore X13.here hx rfl (hb hby d_jdk_52_method_16_26) rfl rfl (l' := #[.val (.ref a1), .val (.int (0 : Int32)), .val (.int (3 : Int32)), .val (.ref b1), .val (.int (2 : Int32)), .val (.ref x13_x1_b2)]) rfl ?_
    refine XS.aload X13.here hx rfl (hb hby d_jdk_52_method_16_28) rfl rfl ?_
    refine XS.iload X13.here hx rfl (hb hby d_jdk_52_method_16_30) rfl ?_
    refine st20 _ ?_
    refine XS.sipush X20.here hx rfl (hb hby d_jdk_52_method_16_35) ?_
    refine XS.icmpYes X20.here hx rfl (pc0 := 38) (pc' := 54) rfl (hb hby d_jdk_52_method_16_38) rfl (tlt (own_getc hy2 hy5)).2.2.1 (by decide) (by decide) ?_
    refine XS.aload X20.here hx rfl (hb hby d_jdk_52_method_16_54) rfl rfl ?_
    exact retOut X20 hx Bd.returns rfl (Or.inr (Or.inr (Or.inr (Or.inr ⟨rfl, rfl, rfl⟩)))) (hb hby d_jdk_52_method_16_56) hr
  · show Q_rc87_compress Z a1 k2 i3 i4 i5 h0 n0 _ T20.heap _
    rw [e20]
    exact ⟨x13_x1_b2, x13_x1_k2, rfl, N20, K19, s15, q13_0⟩
def Q_rc86_init (Z : State) (a1 : Addr) (a2 : Addr) (k3 : ClassId) (i4 : Int32) (i5 : Int32) (i6 : Int32) (h0 : Heap) (n0 : Nat) (v : Option Value) (h : Heap) (L : List Loc) : Prop := ∃ (x3_x13_x1_b2 : Addr), ∃ (x3_x13_x1_k2 : ClassId), v = none ∧ Fr n0 L ∧ Keep h0 h [a1] ∧ h0.size ≤ x3_x13_x1_b2 ∧ Exa Z h a1 nString_0 ∧ Fld Z h a1 nString_0 "coder" "B" (.int (1 : Int32)) ∧ Fld Z h a1 nString_0 "value" "[B" (.ref x3_x13_x1_b2) ∧ Arv Z h x3_x13_x1_b2 x3_x13_x1_k2 .byte (6 : Int32) [(.int (nar .byte ((i4 >>> ((0 : Int32) &&& 31)).toInt8.toInt32))), (.int (nar .byte ((i4 >>> ((8 : Int32) &&& 31)).toInt8.toInt32))), (.int (nar .byte ((i5 >>> ((0 : Int32) &&& 31)).toInt8.toInt32))), (.int (nar .byte ((i5 >>> ((8 : Int32) &&& 31)).toInt8.toInt32))), (.int (nar .byte ((i6 >>> ((0 : Int32) &&& 31)).toInt8.toInt32))), (.int (nar .byte ((i6 >>> ((8 : Int32) &&& 31)).toInt8.toInt32)))] (.int (0 : Int32))
set_option maxRecDepth 65536 in
set_option maxHeartbeats 40000000 in
theorem rc86_init (l : Launch) (Z : State) (a0 : Array Value) (hw : ∀ d ∈ tables_1, d.before a0 Z = true) (ws : List Jvm.Cond) (cs : Int32) (hS : SB Z cs) (a1 : Addr) (a2 : Addr) (k3 : ClassId) (i4 : Int32) (i5 : Int32) (i6 : Int32) (h0 : Heap) (n0 : Nat) (O0 : Old Z n0 h0) (g_a1 : n0 ≤ a1) (g_a2 : n0 ≤ a2) (E_a1 : Exa Z h0 a1 nString_0) (F_a1_coder : Fld Z h0 a1 nString_0 "coder" "B" (.int (0 : Int32))) (F_a1_value : Fld Z h0 a1 nString_0 "value" "[B" .null) (V_a2 : Arv Z h0 a2 k3 .char (3 : Int32) [(.int i4), (.int i5), (.int i6)] (.int (0 : Int32))) (hy2 : nar .char i6 = i6) (hy3 : ¬ (255 : Int32) < i4) (hy4 : ¬ (255 : Int32) < i5) (hy5 : (255 : Int32) < i6) :
    Met l my_1 jdk_42_method_149_code 6 none ws ({ frames := 4, cells := 2, slots := 9, locals := 57 } : Room) #[(.ref a1), (.ref a2), (.int (0 : Int32)), (.int (3 : Int32)), .null] Z h0 (Q_rc86_init Z a1 a2 k3 i4 i5 i6 h0 n0) := by
  refine MetFree.of_bodySF (plainFor_of_name pn_1) hisR ?_
  intro p e s m args below meth c s₁ Bd hml0 hP hK
  obtain ⟨rfl, hZ, hh⟩ := hP
  have hx := Bd.exec
  have hby := Bd.bytes
  have hml : c.maxLocals = 6 := hml0
  have hown : s.vm.findClass nString_0 = some m.cls := findClass_of_methodNamed Bd.named
  have hnm := (name_of_methodNamed Bd.named Bd.method).1
  have X0 : Stand p l e ({ frames := 4, cells := 2, slots := 9, locals := 57 } : Room) s m #[(.ref a1), (.ref a2), (.int (0 : Int32)), (.int (3 : Int32)), .null] below meth c s₁ [] 0 0 := Stand.of_body Bd
  have e0 : s₁.heap = h0 := by rw [← hh, Bd.state]; rfl
  have N0 := Fr.nil n0
  obtain ⟨f₀, hf₀⟩ : ∃ f, f = entryFrame m #[(.ref a1), (.ref a2), (.int (0 : Int32)), (.int (3 : Int32)), .null] 6 := ⟨_, rfl⟩
  rw [← hf₀]
  have pre0 : Go p e below s₁ f₀ s₁ (mkF m 0 #[.val (.ref a1), .val (.ref a2), .val (.int (0 : Int32)), .val (.int (3 : Int32)), .val .null, .unset] []) := fun t k => castTop (hf₀.trans (ef_rc86_init m (a1) (a2) ((0 : Int32)) ((3 : Int32)))) k
  obtain ⟨T1, X1, e1, st1⟩ := initO X0 hx hZ hown (wq hw 16 rfl) (wq hw 17 rfl) (wq hw 18 rfl) e0 (g := (mkF m 1 #[.val (.ref a1), .val (.ref a2), .val (.int (0 : Int32)), .val (.int (3 : Int32)), .val .null, .unset] [(.ref a1)])) rfl (by rw [hml]; rfl) rfl (hb hby d_jdk_42_method_149_1) (by decide) (W := 0) (by show 2 * 0 + _ ≤ _; exact Nat.le_of_eq rfl) (by decide)
  obtain ⟨T2, X2, e2, st2⟩ := getS2 X1 hx hZ hown (host := "") (Or.inl (wq hw 36 rfl)) Via.refl e1 (hS.1.ext O0.2) (g := (mkF m 27 #[.val (.ref a1), .val (.ref a2), .val (.int (0 : Int32)), .val (.int (3 : Int32)), .val .null, .unset] [])) rfl (hb hby d_jdk_42_method_149_27)
  obtain ⟨_, _, ⟨T3, L3, k3, n3⟩, -, X3, ⟨Lc3, hQ3, l3, y3, z3⟩, st3⟩ := Jvm.LawKit.callS X2 hx (y := my_11) hown (mvT hZ (wq hw 37 rfl)) (mvT hZ (wq hw 38 rfl)) (mvT hZ (wq hw 39 rfl)) (mvT hZ (wq hw 40 rfl)) (by decide) (backOf (W := 0) (rc87_compress l Z a0 hw [] cs hS a2 k3 i4 i5 i6 h0 n0 O0 g_a2 V_a2 hy2 hy3 hy4 hy5) hZ (wq hw 40 rfl) (wq hw 39 rfl) (by decide) (by decide)) (g := (mkF m 36 #[.val (.ref a1), .val (.ref a2), .val (.int (0 : Int32)), .val (.int (3 : Int32)), .val .null, .unset] [(.int (3 : Int32)), (.int (0 : Int32)), (.ref a2)])) rfl (by rw [hml]; rfl) (argsL := [(.ref a2), (.int (0 : Int32)), (.int (3 : Int32))]) (rest := []) (lenOf pd_9 rfl) rfl (by show 2 * 0 + _ ≤ _; exact Nat.le_of_eq rfl) (hb hby d_jdk_42_method_149_36) (fun _ _ => ⟨rfl, e2, (by decide : 0 + 2 ≤ _), (by decide : 0 + 9 ≤ _)⟩)
  dsimp only [Pt.U, Pt.locs, Pt.cells, Pt.slots] at X3 l3 y3 z3 st3 hQ3
  have X3 := own_to X3 l3 y3 z3
  obtain ⟨x3_x13_x1_b2, x3_x13_x1_k2, rfl, N3q, K3, sz3_x13_x1_b2, q3_0⟩ := hQ3
  have N3 := Fr.app N0 N3q
  have g4 : n0 ≤ x3_x13_x1_b2 := Nat.le_trans (Nat.le_of_eq O0.1.symm) (Nat.le_trans O0.2.1 sz3_x13_x1_b2)
  have s5 : h0.size ≤ x3_x13_x1_b2 := Nat.le_trans (Keep.refl h0 [a1]).1 sz3_x13_x1_b2
  have ne6 : a1 ≠ x3_x13_x1_b2 := Nat.ne_of_lt (Nat.lt_of_lt_of_le E_a1.lt sz3_x13_x1_b2)
  have ne7 : a2 ≠ x3_x13_x1_b2 := Nat.ne_of_lt (Nat.lt_of_lt_of_le V_a2.lt sz3_x13_x1_b2)
  have O8 : Old Z n0 T3.heap := Old.keep O0 K3 all0
  have K9 : Keep h0 T3.heap [a1] := (Keep.refl h0 [a1]).trans K3 all0
  obtain ⟨_, _, ⟨T10, L10, k10, n10⟩, -, X10, ⟨Lc10, hQ10, l10, y10, z10⟩, st10⟩ := Jvm.LawKit.callS X3 hx (y := my_12) hown (mvT hZ (wq hw 44 rfl)) (mvT hZ (wq hw 45 rfl)) (mvT hZ (wq hw 39 rfl)) (mvT hZ (wq hw 46 rfl)) (by decide) (backOf (W := 1) (rc75_coderFromArrayLen l Z a0 hw [] cs hS x3_x13_x1_b2 x3_x13_x1_k2 (nar .byte ((i4 >>> ((0 : Int32) &&& 31)).toInt8.toInt32)) (nar .byte ((i4 >>> ((8 : Int32) &&& 31)).toInt8.toInt32)) (nar .byte ((i5 >>> ((0 : Int32) &&& 31)).toInt8.toInt32)) (nar .byte ((i5 >>> ((8 : Int32) &&& 31)).toInt8.toInt32)) (nar .byte ((i6 >>> ((0 : Int32) &&& 31)).toInt8.toInt32)) (nar .byte ((i6 >>> ((8 : Int32) &&& 31)).toInt8.toInt32)) T3.heap n0 O8 g4 q3_0) hZ (wq hw 46 rfl) (wq hw 39 rfl) (by decide) (by decide)) (g := (mkF m 45 #[.val (.ref a1), .val (.ref a2), .val (.int (0 : Int32)), .val (.int (3 : Int32)), .val .null, .val (.ref x3_x13_x1_b2)] [(.int (3 : Int32)), (.ref x3_x13_x1_b2), (.ref a1)])) rfl (by rw [hml]; rfl) (argsL := [(.ref x3_x13_x1_b2), (.int (3 : Int32))]) (rest := [(.ref a1)]) (lenOf pd_11 rfl) rfl (by show 2 * 0 + _ ≤ _; exact Nat.le_of_eq rfl) (hb hby d_jdk_42_method_149_45) (fun _ _ => ⟨rfl, rfl, (by decide : 2 + 0 ≤ _), (by decide : 9 + 0 ≤ _)⟩)
  dsimp only [Pt.U, Pt.locs, Pt.cells, Pt.slots] at X10 l10 y10 z10 st10 hQ10
  have X10 := own_to X10 l10 y10 z10
  obtain ⟨rfl, N10q, e10⟩ := hQ10
  have N10 := Fr.app N3 N10q
  have t11 : Exa Z T3.heap a1 nString_0 := (E_a1.keep K3)
  have t12 : Fld Z T3.heap a1 nString_0 "coder" "B" (.int (0 : Int32)) := (F_a1_coder.keep K3 nin0)
  obtain ⟨T13, h13, X13, e13, W13, st13⟩ := putFN X10 hx hZ hown (wq hw 26 rfl) Via.refl e10 t12 t11 (Or.inr ⟨(wq hw 22 rfl), rfl, hnm⟩) (wq hw 6 rfl) (ty := .byte) (v' := (.int (1 : Int32))) (by decide) rfl (by decide +kernel) (g := (mkF m 48 #[.val (.ref a1), .val (.ref a2), .val (.int (0 : Int32)), .val (.int (3 : Int32)), .val .null, .val (.ref x3_x13_x1_b2)] [(.int (1 : Int32)), (.ref a1)])) rfl rfl (hb hby d_jdk_42_method_149_48)
  have f14 : Fld Z h13 a1 nString_0 "coder" "B" (.int (1 : Int32)) := t12.same W13
  have N13 := Fr.snoc X13 N10 g_a1
  have O15 : Old Z n0 h13 := Old.wr O8 W13 g_a1
  have K16 : Keep h0 h13 [a1] := K9.wr W13 (Or.inl (List.mem_of_getElem? (i := 0) rfl))
  have t17 : Exa Z h13 a1 nString_0 := (t11.wr W13)
  have t18 : Fld Z h13 a1 nString_0 "value" "[B" .null := ((F_a1_value.keep K3 nin0).other W13 (Or.inr (slot_ne (Or.inr (wq hw 21 rfl)) (Or.inr (wq hw 22 rfl)) (by decide) (t := (.array .byte)) (t' := .byte) (by decide) (by decide))))
  obtain ⟨T19, h19, X19, e19, W19, st19⟩ := putF X13 hx hZ hown (host := "") (Or.inl (wq hw 25 rfl)) Via.refl e13 t18 t17 (Or.inr ⟨(wq hw 21 rfl), rfl, hnm⟩) (wq hw 6 rfl) (ty := (.array .byte)) (by decide) rfl rfl (g := (mkF m 54 #[.val (.ref a1), .val (.ref a2), .val (.int (0 : Int32)), .val (.int (3 : Int32)), .val .null, .val (.ref x3_x13_x1_b2)] [(.ref x3_x13_x1_b2), (.ref a1)])) rfl rfl (hb hby d_jdk_42_method_149_54)
  have f20 : Fld Z h19 a1 nString_0 "value" "[B" (.ref x3_x13_x1_b2) := t18.same W19
  have N19 := Fr.snoc X19 N13 g_a1
  have O21 : Old Z n0 h19 := Old.wr O15 W19 g_a1
  have K22 : Keep h0 h19 [a1] := K16.wr W19 (Or.inl (List.mem_of_getElem? (i := 0) rfl))
  have t23 : Exa Z h19 a1 nString_0 := (t17.wr W19)
  have t24 : Fld Z h19 a1 nString_0 "coder" "B" (.int (1 : Int32)) := (f14.other W19 (Or.inr (slot_ne (Or.inr (wq hw 22 rfl)) (Or.inr (wq hw 21 rfl)) (by decide) (t := .byte) (t' := (.array .byte)) (by decide) (by decide))))
  have t25 : Arv Z h19 x3_x13_x1_b2 x3_x13_x1_k2 .byte (6 : Int32) [(.int (nar .byte ((i4 >>> ((0 : Int32) &&& 31)).toInt8.toInt32))), (.int (nar .byte ((i4 >>> ((8 : Int32) &&& 31)).toInt8.toInt32))), (.int (nar .byte ((i5 >>> ((0 : Int32) &&& 31)).toInt8.toInt32))), (.int (nar .byte ((i5 >>> ((8 : Int32) &&& 31)).toInt8.toInt32))), (.int (nar .byte ((i6 >>> ((0 : Int32) &&& 31)).toInt8.toInt32))), (.int (nar .byte ((i6 >>> ((8 : Int32) &&& 31)).toInt8.toInt32)))] (.int (0 : Int32)) := ((q3_0.other W13 (Ne.symm ne6)).other W19 (Ne.symm ne6))
  obtain ⟨fs, hr, hrun, hended, hW, hsame⟩ := X19.leave (v := none) (fun _ => rfl)
  refine ⟨_, _, pre0 _ ?_, hrun, hended, _, _, rfl, ?_, ⟨_, rfl⟩, hW, hsame.mono (by decide) (by decide)⟩
  · refine XS.aloadN X0.here hx rfl (hb hby d_jdk_42_method_149_0) rfl rfl ?_
    refine st1 _ ?_
    refine XS.iloadN X1.here hx rfl (hb hby d_jdk_42_method_149_4) rfl ?_
    refine XS.ifYes X1.here hx rfl (pc0 := 5) (pc' := 27) rfl (hb hby d_jdk_42_method_149_5) rfl ((if0 _ _).trans (feq (by decide : ¬ ((3 : Int32) = (0 : Int32)))).2) (by decide) (by decide) ?_
    refine st2 _ ?_
    refine XS.ifNo X2.here hx rfl (hb hby d_jdk_42_method_149_30) rfl ((if0 _ _).trans (feq hS.2.1).1) ?_
    refine XS.aloadN X2.here hx rfl (hb hby d_jdk_42_method_149_33) rfl rfl ?_
    refine XS.iloadN X2.here hx rfl (hb hby d_jdk_42_method_149_34) rfl ?_
    refine XS.iloadN X2.here hx rfl (hb hby d_jdk_42_method_149_35) rfl ?_
    refine st3 _ ?_
    refine XS.astore X3.here hx rfl (hb hby d_jdk_42_method_149_39) rfl rfl (l' := #[.val (.ref a1), .val (.ref a2), .val (.int (0 : Int32)), .val (.int (3 : Int32)), .val .null, .val (.ref x3_x13_x1_b2)]) rfl ?_
    refine XS.aloadN X3.here hx rfl (hb hby d_jdk_42_method_149_41) rfl rfl ?_
    refine XS.aload X3.here hx rfl (hb hby d_jdk_42_method_149_42) rfl rfl ?_
    refine XS.iloadN X3.here hx rfl (hb hby d_jdk_42_method_149_44) rfl ?_
    refine st10 _ ?_
    refine st13 _ ?_
    refine XS.aloadN X13.here hx rfl (hb hby d_jdk_42_method_149_51) rfl rfl ?_
    refine XS.aload X13.here hx rfl (hb hby d_jdk_42_method_149_52) rfl rfl ?_
    refine st19 _ ?_
    exact X19.returnOut hx Bd.returns (hb hby d_jdk_42_method_149_57) hr
  · show Q_rc86_init Z a1 a2 k3 i4 i5 i6 h0 n0 _ T19.heap _
    rw [e19]
    exact ⟨x3_x13_x1_b2, x3_x13_x1_k2, rfl, N19, K22, s5, t23, t24, f20, t25⟩
def Q_rc85_init (Z : State) (a1 : Addr) (a2 : Addr) (k3 : ClassId) (i4 : Int32) (i5 : Int32) (i6 : Int32) (h0 : Heap) (n0 : Nat) (v : Option Value) (h : Heap) (L : List Loc) : Prop := ∃ (x2_x3_x13_x1_b2 : Addr), ∃ (x2_x3_x13_x1_k2 : ClassId), v = none ∧ Fr n0 L ∧ Keep h0 h [a1] ∧ h0.size ≤ x2_x3_x13_x1_b2 ∧ Exa Z h a1 nString_0 ∧ Fld Z h a1 nString_0 "coder" "B" (.int (1 : Int32)) ∧ Fld Z h a1 nString_0 "value" "[B" (.ref x2_x3_x13_x1_b2) ∧ Arv Z h x2_x3_x13_x1_b2 x2_x3_x13_x1_k2 .byte (6 : Int32) [(.int (nar .byte ((i4 >>> ((0 : Int32) &&& 31)).toInt8.toInt32))), (.int (nar .byte ((i4 >>> ((8 : Int32) &&& 31)).toInt8.toInt32))), (.int (nar .byte ((i5 >>> ((0 : Int32) &&& 31)).toInt8.toInt32))), (.int (nar .byte ((i5 >>> ((8 : Int32) &&& 31)).toInt8.toInt32))), (.int (nar .byte ((i6 >>> ((0 : Int32) &&& 31)).toInt8.toInt32))), (.int (nar .byte ((i6 >>> ((8 : Int32) &&& 31)).toInt8.toInt32)))] (.int (0 : Int32))
set_option maxRecDepth 65536 in
set_option maxHeartbeats 40000000 in
theorem rc85_init (l : Launch) (Z : State) (a0 : Array Value) (hw : ∀ d ∈ tables_1, d.before a0 Z = true) (ws : List Jvm.Cond) (cs : Int32) (hS : SB Z cs) (a1 : Addr) (a2 : Addr) (k3 : ClassId) (i4 : Int32) (i5 : Int32) (i6 : Int32) (h0 : Heap) (n0 : Nat) (O0 : Old Z n0 h0) (g_a1 : n0 ≤ a1) (g_a2 : n0 ≤ a2) (E_a1 : Exa Z h0 a1 nString_0) (F_a1_coder : Fld Z h0 a1 nString_0 "coder" "B" (.int (0 : Int32))) (F_a1_value : Fld Z h0 a1 nString_0 "value" "[B" .null) (V_a2 : Arv Z h0 a2 k3 .char (3 : Int32) [(.int i4), (.int i5), (.int i6)] (.int (0 : Int32))) (hy2 : nar .char i6 = i6) (hy3 : ¬ (255 : Int32) < i4) (hy4 : ¬ (255 : Int32) < i5) (hy5 : (255 : Int32) < i6) :
    Met l my_2 jdk_42_method_3_code 2 none ws ({ frames := 5, cells := 2, slots := 9, locals := 74 } : Room) #[(.ref a1), (.ref a2)] Z h0 (Q_rc85_init Z a1 a2 k3 i4 i5 i6 h0 n0) := by
  refine MetFree.of_bodySF (plainFor_of_name pn_1) hisR ?_
  intro p e s m args below meth c s₁ Bd hml0 hP hK
  obtain ⟨rfl, hZ, hh⟩ := hP
  have hx := Bd.exec
  have hby := Bd.bytes
  have hml : c.maxLocals = 2 := hml0
  have hown : s.vm.findClass nString_0 = some m.cls := findClass_of_methodNamed Bd.named
  have hnm := (name_of_methodNamed Bd.named Bd.method).1
  have X0 : Stand p l e ({ frames := 5, cells := 2, slots := 9, locals := 74 } : Room) s m #[(.ref a1), (.ref a2)] below meth c s₁ [] 0 0 := Stand.of_body Bd
  have e0 : s₁.heap = h0 := by rw [← hh, Bd.state]; rfl
  have N0 := Fr.nil n0
  obtain ⟨f₀, hf₀⟩ : ∃ f, f = entryFrame m #[(.ref a1), (.ref a2)] 2 := ⟨_, rfl⟩
  rw [← hf₀]
  have pre0 : Go p e below s₁ f₀ s₁ (mkF m 0 #[.val (.ref a1), .val (.ref a2)] []) := fun t k => castTop (hf₀.trans (ef_rc85_init m (a1) (a2))) k
  obtain ⟨c1, Ar1, q1, S1, M1, Hh1, G1⟩ := (id V_a2)
  obtain ⟨_, _, ⟨T2, L2, k2, n2⟩, -, X2, ⟨Lc2, hQ2, l2, y2, z2⟩, st2⟩ := X0.specialBack hx (y := my_1) rfl hown (mvT hZ (wq hw 12 rfl)) (mvT hZ (wq hw 13 rfl)) (mvT hZ (wq hw 15 rfl)) (by decide) (backOf (W := 0) (rc86_init l Z a0 hw [] cs hS a1 a2 k3 i4 i5 i6 h0 n0 O0 g_a1 g_a2 E_a1 F_a1_coder F_a1_value V_a2 hy2 hy3 hy4 hy5) hZ (wq hw 15 rfl) (wq hw 7 rfl) (by decide) (by decide)) (g := (mkF m 6 #[.val (.ref a1), .val (.ref a2)] [.null, (.int (3 : Int32)), (.int (0 : Int32)), (.ref a2), (.ref a1)])) rfl (by rw [hml]; rfl) (Steps.refl _) (a := a1) (argsL := [(.ref a2), (.int (0 : Int32)), (.int (3 : Int32)), .null]) (rest := []) (lenOf pd_1 rfl) rfl (by show 2 * 0 + _ ≤ _; exact Nat.le_of_eq rfl) (hb hby d_jdk_42_method_3_6) (fun _ _ => ⟨rfl, e0, (by decide : 0 + 2 ≤ _), (by decide : 0 + 9 ≤ _)⟩)
  dsimp only [Pt.U, Pt.locs, Pt.cells, Pt.slots] at X2 l2 y2 z2 st2 hQ2
  have X2 := own_to X2 l2 y2 z2
  obtain ⟨x2_x3_x13_x1_b2, x2_x3_x13_x1_k2, rfl, N2q, K2, sz2_x3_x13_x1_b2, q2_0, q2_1, q2_2, q2_3⟩ := hQ2
  have N2 := Fr.app N0 N2q
  have g3 : n0 ≤ x2_x3_x13_x1_b2 := Nat.le_trans (Nat.le_of_eq O0.1.symm) (Nat.le_trans O0.2.1 sz2_x3_x13_x1_b2)
  have s4 : h0.size ≤ x2_x3_x13_x1_b2 := Nat.le_trans (Keep.refl h0 [a1]).1 sz2_x3_x13_x1_b2
  have ne5 : a1 ≠ x2_x3_x13_x1_b2 := Nat.ne_of_lt (Nat.lt_of_lt_of_le E_a1.lt sz2_x3_x13_x1_b2)
  have ne6 : a2 ≠ x2_x3_x13_x1_b2 := Nat.ne_of_lt (Nat.lt_of_lt_of_le V_a2.lt sz2_x3_x13_x1_b2)
  have O7 : Old Z n0 T2.heap := Old.keep O0 K2 (allS g_a1 all0)
  have K8 : Keep h0 T2.heap [a1] := (Keep.refl h0 [a1]).trans K2 (allS (Or.inl (List.mem_of_getElem? (i := 0) rfl)) all0)
  obtain ⟨fs, hr, hrun, hended, hW, hsame⟩ := X2.leave (v := none) (fun _ => rfl)
  refine ⟨_, _, pre0 _ ?_, hrun, hended, _, _, rfl, ?_, ⟨_, rfl⟩, hW, hsame.mono (by decide) (by decide)⟩
  · refine XS.aloadN X0.here hx rfl (hb hby d_jdk_42_method_3_0) rfl rfl ?_
    refine XS.aloadN X0.here hx rfl (hb hby d_jdk_42_method_3_1) rfl rfl ?_
    refine XS.iconst X0.here hx rfl (hb hby d_jdk_42_method_3_2) ?_
    refine XS.aloadN X0.here hx rfl (hb hby d_jdk_42_method_3_3) rfl rfl ?_
    refine X0.arraylength hx (by rw [e0]; exact Ar1.1) (State.isArrayOf_alike hZ.alike Ar1.2.1) (g := (mkF m 4 #[.val (.ref a1), .val (.ref a2)] [(.ref a2), (.int (0 : Int32)), (.ref a2), (.ref a1)])) rfl rfl (hb hby d_jdk_42_method_3_4) _ ?_
    rw [len_of S1 M1]
    refine XS.aconstNull X0.here hx rfl (hb hby d_jdk_42_method_3_5) ?_
    refine st2.trans ?_
    exact X2.returnOut hx Bd.returns (hb hby d_jdk_42_method_3_9) hr
  · show Q_rc85_init Z a1 a2 k3 i4 i5 i6 h0 n0 _ T2.heap _
    exact ⟨x2_x3_x13_x1_b2, x2_x3_x13_x1_k2, rfl, N2, K8, s4, q2_0, q2_1, q2_2, q2_3⟩
def Q_rc84_make (Z : State) (i1 : Int32) (i2 : Int32) (i3 : Int32) (h0 : Heap) (n0 : Nat) (v : Option Value) (h : Heap) (L : List Loc) : Prop := ∃ (b1 : Addr), ∃ (x36_x2_x3_x13_x1_b2 : Addr), ∃ (x36_x2_x3_x13_x1_k2 : ClassId), v = some (.ref b1) ∧ Fr n0 L ∧ Keep h0 h [] ∧ h0.size ≤ b1 ∧ h0.size ≤ x36_x2_x3_x13_x1_b2 ∧ Exa Z h b1 nString_0 ∧ Fld Z h b1 nString_0 "coder" "B" (.int (1 : Int32)) ∧ Fld Z h b1 nString_0 "value" "[B" (.ref x36_x2_x3_x13_x1_b2) ∧ Arv Z h x36_x2_x3_x13_x1_b2 x36_x2_x3_x13_x1_k2 .byte (6 : Int32) [(.int (nar .byte ((i1 >>> ((0 : Int32) &&& 31)).toInt8.toInt32))), (.int (nar .byte ((i1 >>> ((8 : Int32) &&& 31)).toInt8.toInt32))), (.int (nar .byte ((i2 >>> ((0 : Int32) &&& 31)).toInt8.toInt32))), (.int (nar .byte ((i2 >>> ((8 : Int32) &&& 31)).toInt8.toInt32))), (.int (nar .byte ((i3 >>> ((0 : Int32) &&& 31)).toInt8.toInt32))), (.int (nar .byte ((i3 >>> ((8 : Int32) &&& 31)).toInt8.toInt32)))] (.int (0 : Int32))
set_option maxRecDepth 65536 in
set_option maxHeartbeats 40000000 in
theorem rc84_make (l : Launch) (Z : State) (a0 : Array Value) (hw : ∀ d ∈ tables_1, d.before a0 Z = true) (ws : List Jvm.Cond) (cs : Int32) (hS : SB Z cs) (i1 : Int32) (i2 : Int32) (i3 : Int32) (h0 : Heap) (n0 : Nat) (O0 : Old Z n0 h0) (hy0 : nar .char i1 = i1) (hy1 : nar .char i2 = i2) (hy2 : nar .char i3 = i3) (hy3 : ¬ (255 : Int32) < i1) (hy4 : ¬ (255 : Int32) < i2) (hy5 : (255 : Int32) < i3) :
    Met l my_3 method_2_code 4 (some (.object nString_0)) ws ({ frames := 6, cells := 4, slots := 16, locals := 88 } : Room) #[(.int (3 : Int32)), (.int i1), (.int i2), (.int i3)] Z h0 (Q_rc84_make Z i1 i2 i3 h0 n0) := by
  refine MetFree.of_bodySF (plainFor_of_name pn_2) hisR ?_
  intro p e s m args below meth c s₁ Bd hml0 hP hK
  obtain ⟨rfl, hZ, hh⟩ := hP
  have hx := Bd.exec
  have hby := Bd.bytes
  have hml : c.maxLocals = 4 := hml0
  have hown : s.vm.findClass nUnfore_3 = some m.cls := findClass_of_methodNamed Bd.named
  have hnm := (name_of_methodNamed Bd.named Bd.method).1
  have X0 : Stand p l e ({ frames := 6, cells := 4, slots := 16, locals := 88 } : Room) s m #[(.int (3 : Int32)), (.int i1), (.int i2), (.int i3)] below meth c s₁ [] 0 0 := Stand.of_body Bd
  have e0 : s₁.heap = h0 := by rw [← hh, Bd.state]; rfl
  have N0 := Fr.nil n0
  obtain ⟨f₀, hf₀⟩ : ∃ f, f = entryFrame m #[(.int (3 : Int32)), (.int i1), (.int i2), (.int i3)] 4 := ⟨_, rfl⟩
  rw [← hf₀]
  have pre0 : Go p e below s₁ f₀ s₁ (mkF m 0 #[.val (.int (3 : Int32)), .val (.int i1), .val (.int i2), .val (.int i3)] []) := fun t k => castTop (hf₀.trans (ef_rc84_make m ((3 : Int32)) (i1) (i2) (i3))) k
  obtain ⟨T1, h1, X1, e1, E1, A1, D1, -, st1⟩ := newO X0 hx hZ hown (wq hw 5 rfl) (wq hw 6 rfl) (wq hw 7 rfl) e0 (g := (mkF m 59 #[.val (.int (3 : Int32)), .val (.int i1), .val (.int i2), .val (.int i3)] [])) rfl (hb hby d_method_2_59) (by decide) (by decide)
  obtain ⟨b1, gb1⟩ : ∃ z, z = h0.size := ⟨_, rfl⟩
  rw [← gb1] at A1 D1 st1
  have g2 : n0 ≤ b1 := Nat.le_trans (Nat.le_of_eq O0.1.symm) (Nat.le_trans O0.2.1 (Nat.le_of_eq gb1.symm))
  have s3 : h0.size ≤ b1 := Nat.le_trans (Keep.refl h0 []).1 (Nat.le_of_eq gb1.symm)
  have O4 : Old Z n0 h1 := Old.ext O0 E1
  have K5 : Keep h0 h1 [] := (Keep.refl h0 []).ext E1
  have f6 : Fld Z h1 b1 nString_0 "value" "[B" .null := D1 (Or.inr (wq hw 21 rfl)) (ty := (.array .byte)) (by decide)
  have f7 : Fld Z h1 b1 nString_0 "coder" "B" (.int (0 : Int32)) := D1 (Or.inr (wq hw 22 rfl)) (ty := .byte) (by decide)
  obtain ⟨T8, h8, k8, X8, e8, E8, A8, st8⟩ := newP X1 hx hZ (wq hw 8 rfl) e1 (g := (mkF m 64 #[.val (.int (3 : Int32)), .val (.int i1), .val (.int i2), .val (.int i3)] [(.int (3 : Int32)), (.ref b1), (.ref b1)])) rfl (hb hby d_method_2_64) rfl (by decide) (cap := 3) (by decide) (by decide) (by decide) (by decide)
  obtain ⟨b8, gb8⟩ : ∃ z, z = h1.size := ⟨_, rfl⟩
  rw [← gb8] at A8 st8
  have ne9 : b1 ≠ b8 := Nat.ne_of_lt (Nat.lt_of_lt_of_le A1.lt (Nat.le_of_eq gb8.symm))
  have g10 : n0 ≤ b8 := Nat.le_trans (Nat.le_of_eq O4.1.symm) (Nat.le_trans O4.2.1 (Nat.le_of_eq gb8.symm))
  have s11 : h0.size ≤ b8 := Nat.le_trans K5.1 (Nat.le_of_eq gb8.symm)
  have O12 : Old Z n0 h8 := Old.ext O4 E8
  have K13 : Keep h0 h8 [] := K5.ext E8
  have v14 : Arv Z h8 b8 k8 .char (3 : Int32) [(.int (0 : Int32)), (.int (0 : Int32)), (.int (0 : Int32))] (.int (0 : Int32)) := (Arv.new A8 (by decide)).pad (pad_rep [] (.int (0 : Int32)) 3)
  obtain ⟨c15, Ar15, q15, S15, M15, Hh15, G15⟩ := (id v14)
  have hin15 : ¬ ((0 : Int32) < 0 ∨ c15.slots.size ≤ ((0 : Int32)).toNatClampNeg) := inb_of S15 ⟨by decide, by decide⟩
  obtain ⟨T16, h16, X16, e16, W16, st16⟩ := stC X8 hx hZ e8 Ar15 (j := (0 : Int32)) hin15 (g := (mkF m 69 #[.val (.int (3 : Int32)), .val (.int i1), .val (.int i2), .val (.int i3)] [(.int i1), (.int (0 : Int32)), (.ref b8), (.ref b8), (.ref b1), (.ref b1)])) rfl rfl (hb hby d_method_2_69)
  have v17 : Arv Z h16 b8 k8 .char (3 : Int32) [(.int (nar .char i1)), (.int (0 : Int32)), (.int (0 : Int32))] (.int (0 : Int32)) := Arv.set Ar15 q15 S15 M15 Hh15 G15 (fits_nar_char _) W16 0 rfl (Nat.le_of_ble_eq_true rfl)
  have v18 : Arv Z h16 b8 k8 .char (3 : Int32) [(.int i1), (.int (0 : Int32)), (.int (0 : Int32))] (.int (0 : Int32)) := by rw [hy0] at v17; exact v17
  have N16 := Fr.snoc X16 N0 g10
  have O19 : Old Z n0 h16 := Old.wr O12 W16 g10
  have K20 : Keep h0 h16 [] := K13.wr W16 (Or.inr s11)
  obtain ⟨c21, Ar21, q21, S21, M21, Hh21, G21⟩ := (id v18)
  have hin21 : ¬ ((1 : Int32) < 0 ∨ c21.slots.size ≤ ((1 : Int32)).toNatClampNeg) := inb_of S21 ⟨by decide, by decide⟩
  obtain ⟨T22, h22, X22, e22, W22, st22⟩ := stC X16 hx hZ e16 Ar21 (j := (1 : Int32)) hin21 (g := (mkF m 73 #[.val (.int (3 : Int32)), .val (.int i1), .val (.int i2), .val (.int i3)] [(.int i2), (.int (1 : Int32)), (.ref b8), (.ref b8), (.ref b1), (.ref b1)])) rfl rfl (hb hby d_method_2_73)
  have v23 : Arv Z h22 b8 k8 .char (3 : Int32) [(.int i1), (.int (nar .char i2)), (.int (0 : Int32))] (.int (0 : Int32)) := Arv.set Ar21 q21 S21 M21 Hh21 G21 (fits_nar_char _) W22 1 rfl (Nat.le_of_ble_eq_true rfl)
  have v24 : Arv Z h22 b8 k8 .char (3 : Int32) [(.int i1), (.int i2), (.int (0 : Int32))] (.int (0 : Int32)) := by rw [hy1] at v23; exact v23
  have N22 := Fr.snoc X22 N16 g10
  have O25 : Old Z n0 h22 := Old.wr O19 W22 g10
  have K26 : Keep h0 h22 [] := K20.wr W22 (Or.inr s11)
  obtain ⟨c27, Ar27, q27, S27, M27, Hh27, G27⟩ := (id v24)
  have hin27 : ¬ ((2 : Int32) < 0 ∨ c27.slots.size ≤ ((2 : Int32)).toNatClampNeg) := inb_of S27 ⟨by decide, by decide⟩
  obtain ⟨T28, h28, X28, e28, W28, st28⟩ := stC X22 hx hZ e22 Ar27 (j := (2 : Int32)) hin27 (g := (mkF m 77 #[.val (.int (3 : Int32)), .val (.int i1), .val (.int i2), .val (.int i3)] [(.int i3), (.int (2 : Int32)), (.ref b8), (.ref b8), (.ref b1), (.ref b1)])) rfl rfl (hb hby d_method_2_77)
  have v29 : Arv Z h28 b8 k8 .char (3 : Int32) [(.int i1), (.int i2), (.int (nar .char i3))] (.int (0 : Int32)) := Arv.set Ar27 q27 S27 M27 Hh27 G27 (fits_nar_char _) W28 2 rfl (Nat.le_of_ble_eq_true rfl)
  have v30 : Arv Z h28 b8 k8 .char (3 : Int32) [(.int i1), (.int i2), (.int i3)] (.int (0 : Int32)) := by rw [hy2] at v29; exact v29
  have N28 := Fr.snoc X28 N22 g10
  have O31 : Old Z n0 h28 := Old.wr O25 W28 g10
  have K32 : Keep h0 h28 [] := K26.wr W28 (Or.inr s11)
  have t33 : Exa Z h28 b1 nString_0 := ((((A1.ext E8).wr W16).wr W22).wr W28)
  have t34 : Fld Z h28 b1 nString_0 "coder" "B" (.int (0 : Int32)) := ((((f7.ext E8).other W16 (Or.inl ne9)).other W22 (Or.inl ne9)).other W28 (Or.inl ne9))
  have t35 : Fld Z h28 b1 nString_0 "value" "[B" .null := ((((f6.ext E8).other W16 (Or.inl ne9)).other W22 (Or.inl ne9)).other W28 (Or.inl ne9))
  obtain ⟨_, _, ⟨T36, L36, k36, n36⟩, -, X36, ⟨Lc36, hQ36, l36, y36, z36⟩, st36⟩ := X28.specialBack hx (y := my_2) rfl hown (mvT hZ (wq hw 9 rfl)) (mvT hZ (wq hw 10 rfl)) (mvT hZ (wq hw 11 rfl)) (by decide) (backOf (W := 1) (rc85_init l Z a0 hw [] cs hS b1 b8 k8 i1 i2 i3 h28 n0 O31 g2 g10 t33 t34 t35 v30 hy2 hy3 hy4 hy5) hZ (wq hw 11 rfl) (wq hw 7 rfl) (by decide) (by decide)) (g := (mkF m 78 #[.val (.int (3 : Int32)), .val (.int i1), .val (.int i2), .val (.int i3)] [(.ref b8), (.ref b1), (.ref b1)])) rfl (by rw [hml]; rfl) (Steps.refl _) (a := b1) (argsL := [(.ref b8)]) (rest := [(.ref b1)]) (lenOf pd_2 rfl) rfl (by show 2 * 0 + _ ≤ _; exact Nat.le_of_eq rfl) (hb hby d_method_2_78) (fun _ _ => ⟨rfl, e28, (by decide : 2 + 2 ≤ _), (by decide : 7 + 9 ≤ _)⟩)
  dsimp only [Pt.U, Pt.locs, Pt.cells, Pt.slots] at X36 l36 y36 z36 st36 hQ36
  have X36 := own_to X36 l36 y36 z36
  obtain ⟨x36_x2_x3_x13_x1_b2, x36_x2_x3_x13_x1_k2, rfl, N36q, K36, sz36_x2_x3_x13_x1_b2, q36_0, q36_1, q36_2, q36_3⟩ := hQ36
  have N36 := Fr.app N28 N36q
  have g37 : n0 ≤ x36_x2_x3_x13_x1_b2 := Nat.le_trans (Nat.le_of_eq O31.1.symm) (Nat.le_trans O31.2.1 sz36_x2_x3_x13_x1_b2)
  have s38 : h0.size ≤ x36_x2_x3_x13_x1_b2 := Nat.le_trans K32.1 sz36_x2_x3_x13_x1_b2
  have ne39 : b1 ≠ x36_x2_x3_x13_x1_b2 := Nat.ne_of_lt (Nat.lt_of_lt_of_le t33.lt sz36_x2_x3_x13_x1_b2)
  have ne40 : b8 ≠ x36_x2_x3_x13_x1_b2 := Nat.ne_of_lt (Nat.lt_of_lt_of_le v30.lt sz36_x2_x3_x13_x1_b2)
  have O41 : Old Z n0 T36.heap := Old.keep O31 K36 (allS g2 all0)
  have K42 : Keep h0 T36.heap [] := K32.trans K36 (allS (Or.inr s3) all0)
  obtain ⟨fs, hr, hrun, hended, hW, hsame⟩ := X36.leave (v := (some (.ref b1))) (fun h => by rw [Bd.returns] at h; cases h)
  refine ⟨_, _, pre0 _ ?_, hrun, hended, _, _, rfl, ?_, ⟨_, rfl⟩, hW, hsame.mono (by decide) (by decide)⟩
  · refine XS.iloadN X0.here hx rfl (hb hby d_method_2_0) rfl ?_
    refine XS.ifYes X0.here hx rfl (pc0 := 1) (pc' := 15) rfl (hb hby d_method_2_1) rfl ((if0 _ _).trans (feq (by decide : ¬ ((3 : Int32) = (0 : Int32)))).2) (by decide) (by decide) ?_
    refine XS.iloadN X0.here hx rfl (hb hby d_method_2_15) rfl ?_
    refine XS.iconst X0.here hx rfl (hb hby d_method_2_16) ?_
    refine XS.icmpYes X0.here hx rfl (pc0 := 17) (pc' := 35) rfl (hb hby d_method_2_17) rfl (feq (by decide : ¬ ((3 : Int32) = (1 : Int32)))).2 (by decide) (by decide) ?_
    refine XS.iloadN X0.here hx rfl (hb hby d_method_2_35) rfl ?_
    refine XS.iconst X0.here hx rfl (hb hby d_method_2_36) ?_
    refine XS.icmpYes X0.here hx rfl (pc0 := 37) (pc' := 59) rfl (hb hby d_method_2_37) rfl (feq (by decide : ¬ ((3 : Int32) = (2 : Int32)))).2 (by decide) (by decide) ?_
    refine st1 _ ?_
    refine XS.dup X1.here hx rfl (hb hby d_method_2_62) rfl rfl ?_
    refine XS.iconst X1.here hx rfl (hb hby d_method_2_63) ?_
    refine st8 _ ?_
    refine XS.dup X8.here hx rfl (hb hby d_method_2_66) rfl rfl ?_
    refine XS.iconst X8.here hx rfl (hb hby d_method_2_67) ?_
    refine XS.iloadN X8.here hx rfl (hb hby d_method_2_68) rfl ?_
    refine st16 _ ?_
    refine XS.dup X16.here hx rfl (hb hby d_method_2_70) rfl rfl ?_
    refine XS.iconst X16.here hx rfl (hb hby d_method_2_71) ?_
    refine XS.iloadN X16.here hx rfl (hb hby d_method_2_72) rfl ?_
    refine st22 _ ?_
    refine XS.dup X22.here hx rfl (hb hby d_method_2_74) rfl rfl ?_
    refine XS.iconst X22.here hx rfl (hb hby d_method_2_75) ?_
    refine XS.iloadN X22.here hx rfl (hb hby d_method_2_76) rfl ?_
    refine st28 _ ?_
    refine st36.trans ?_
    exact retOut X36 hx Bd.returns rfl (Or.inr (Or.inr (Or.inr (Or.inr ⟨rfl, rfl, rfl⟩)))) (hb hby d_method_2_81) hr
  · show Q_rc84_make Z i1 i2 i3 h0 n0 _ T36.heap _
    exact ⟨b1, x36_x2_x3_x13_x1_b2, x36_x2_x3_x13_x1_k2, rfl, N36, K42, s3, s38, q36_0, q36_1, q36_2, q36_3⟩
def Q_rc94_compress (Z : State) (a1 : Addr) (a2 : Addr) (k3 : ClassId) (i4 : Int32) (i5 : Int32) (i6 : Int32) (k7 : ClassId) (h0 : Heap) (n0 : Nat) (v : Option Value) (h : Heap) (L : List Loc) : Prop := v = some (.int (3 : Int32)) ∧ Fr n0 L ∧ Keep h0 h [a2] ∧ Arv Z h a2 k7 .byte (3 : Int32) [(.int (nar .byte (i4.toInt8.toInt32))), (.int (nar .byte (i5.toInt8.toInt32))), (.int (nar .byte (i6.toInt8.toInt32)))] (.int (0 : Int32))
set_option maxRecDepth 65536 in
set_option maxHeartbeats 40000000 in
theorem rc94_compress (l : Launch) (Z : State) (a0 : Array Value) (hw : ∀ d ∈ tables_1, d.before a0 Z = true) (ws : List Jvm.Cond) (cs : Int32) (hS : SB Z cs) (a1 : Addr) (a2 : Addr) (k3 : ClassId) (i4 : Int32) (i5 : Int32) (i6 : Int32) (k7 : ClassId) (h0 : Heap) (n0 : Nat) (O0 : Old Z n0 h0) (g_a1 : n0 ≤ a1) (g_a2 : n0 ≤ a2) (V_a1 : Arv Z h0 a1 k3 .char (3 : Int32) [(.int i4), (.int i5), (.int i6)] (.int (0 : Int32))) (V_a2 : Arv Z h0 a2 k7 .byte (3 : Int32) [(.int (0 : Int32)), (.int (0 : Int32)), (.int (0 : Int32))] (.int (0 : Int32))) (hy3 : ¬ (255 : Int32) < i4) (hy4 : ¬ (255 : Int32) < i5) (hy5 : ¬ (255 : Int32) < i6) (hy6 : ¬ a1 = a2) :
    Met l my_5 jdk_52_method_21_code 7 (some .int) ws ({ frames := 0, cells := 0, slots := 0, locals := 0 } : Room) #[(.ref a1), (.int (0 : Int32)), (.ref a2), (.int (0 : Int32)), (.int (3 : Int32))] Z h0 (Q_rc94_compress Z a1 a2 k3 i4 i5 i6 k7 h0 n0) := by
  refine MetFree.of_bodySF (plainFor_of_name pn_3) hisR ?_
  intro p e s m args below meth c s₁ Bd hml0 hP hK
  obtain ⟨rfl, hZ, hh⟩ := hP
  have hx := Bd.exec
  have hby := Bd.bytes
  have hml : c.maxLocals = 7 := hml0
  have hown : s.vm.findClass nString_1 = some m.cls := findClass_of_methodNamed Bd.named
  have hnm := (name_of_methodNamed Bd.named Bd.method).1
  have X0 : Stand p l e ({ frames := 0, cells := 0, slots := 0, locals := 0 } : Room) s m #[(.ref a1), (.int (0 : Int32)), (.ref a2), (.int (0 : Int32)), (.int (3 : Int32))] below meth c s₁ [] 0 0 := Stand.of_body Bd
  have e0 : s₁.heap = h0 := by rw [← hh, Bd.state]; rfl
  have N0 := Fr.nil n0
  obtain ⟨f₀, hf₀⟩ : ∃ f, f = entryFrame m #[(.ref a1), (.int (0 : Int32)), (.ref a2), (.int (0 : Int32)), (.int (3 : Int32))] 7 := ⟨_, rfl⟩
  rw [← hf₀]
  have pre0 : Go p e below s₁ f₀ s₁ (mkF m 0 #[.val (.ref a1), .val (.int (0 : Int32)), .val (.ref a2), .val (.int (0 : Int32)), .val (.int (3 : Int32)), .unset, .unset] []) := fun t k => castTop (hf₀.trans (ef_rc94_compress m (a1) ((0 : Int32)) (a2) ((0 : Int32)) ((3 : Int32)))) k
  obtain ⟨c1, Ar1, q1, S1, M1, Hh1, G1⟩ := (id V_a1)
  have hin1 : ¬ ((0 : Int32) < 0 ∨ c1.slots.size ≤ ((0 : Int32)).toNatClampNeg) := inb_of S1 ⟨by decide, by decide⟩
  have hat1 : c1.slots[((0 : Int32)).toNatClampNeg]? = some (.int i4) := Hh1.at hin1 rfl
  obtain ⟨c2, Ar2, q2, S2, M2, Hh2, G2⟩ := (id V_a2)
  have hin2 : ¬ ((0 : Int32) < 0 ∨ c2.slots.size ≤ ((0 : Int32)).toNatClampNeg) := inb_of S2 ⟨by decide, by decide⟩
  obtain ⟨T3, h3, X3, e3, W3, st3⟩ := stB X0 hx hZ e0 Ar2 (j := (0 : Int32)) hin2 (g := (mkF m 31 #[.val (.ref a1), .val (.int (0 : Int32)), .val (.ref a2), .val (.int (0 : Int32)), .val (.int (3 : Int32)), .val (.int (0 : Int32)), .val (.int i4)] [(.int (i4.toInt8.toInt32)), (.int (0 : Int32)), (.ref a2)])) rfl rfl (hb hby d_jdk_52_method_21_31)
  have v4 : Arv Z h3 a2 k7 .byte (3 : Int32) [(.int (nar .byte (i4.toInt8.toInt32))), (.int (0 : Int32)), (.int (0 : Int32))] (.int (0 : Int32)) := Arv.set Ar2 q2 S2 M2 Hh2 G2 (fits_nar_byte _) W3 0 rfl (Nat.le_of_ble_eq_true rfl)
  have N3 := Fr.snoc X3 N0 g_a2
  have O5 : Old Z n0 h3 := Old.wr O0 W3 g_a2
  have K6 : Keep h0 h3 [a2] := (Keep.refl h0 [a2]).wr W3 (Or.inl (List.mem_of_getElem? (i := 0) rfl))
  have t7 : Arv Z h3 a1 k3 .char (3 : Int32) [(.int i4), (.int i5), (.int i6)] (.int (0 : Int32)) := (V_a1.other W3 hy6)
  obtain ⟨c8, Ar8, q8, S8, M8, Hh8, G8⟩ := (id t7)
  have hin8 : ¬ ((1 : Int32) < 0 ∨ c8.slots.size ≤ ((1 : Int32)).toNatClampNeg) := inb_of S8 ⟨by decide, by decide⟩
  have hat8 : c8.slots[((1 : Int32)).toNatClampNeg]? = some (.int i5) := Hh8.at hin8 rfl
  obtain ⟨c9, Ar9, q9, S9, M9, Hh9, G9⟩ := (id v4)
  have hin9 : ¬ ((1 : Int32) < 0 ∨ c9.slots.size ≤ ((1 : Int32)).toNatClampNeg) := inb_of S9 ⟨by decide, by decide⟩
  obtain ⟨T10, h10, X10, e10, W10, st10⟩ := stB X3 hx hZ e3 Ar9 (j := (1 : Int32)) hin9 (g := (mkF m 31 #[.val (.ref a1), .val (.int (1 : Int32)), .val (.ref a2), .val (.int (1 : Int32)), .val (.int (3 : Int32)), .val (.int (1 : Int32)), .val (.int i5)] [(.int (i5.toInt8.toInt32)), (.int (1 : Int32)), (.ref a2)])) rfl rfl (hb hby d_jdk_52_method_21_31)
  have v11 : Arv Z h10 a2 k7 .byte (3 : Int32) [(.int (nar .byte (i4.toInt8.toInt32))), (.int (nar .byte (i5.toInt8.toInt32))), (.int (0 : Int32))] (.int (0 : Int32)) := Arv.set Ar9 q9 S9 M9 Hh9 G9 (fits_nar_byte _) W10 1 rfl (Nat.le_of_ble_eq_true rfl)
  have N10 := Fr.snoc X10 N3 g_a2
  have O12 : Old Z n0 h10 := Old.wr O5 W10 g_a2
  have K13 : Keep h0 h10 [a2] := K6.wr W10 (Or.inl (List.mem_of_getElem? (i := 0) rfl))
  have t14 : Arv Z h10 a1 k3 .char (3 : Int32) [(.int i4), (.int i5), (.int i6)] (.int (0 : Int32)) := (t7.other W10 hy6)
  obtain ⟨c15, Ar15, q15, S15, M15, Hh15, G15⟩ := (id t14)
  have hin15 : ¬ ((2 : Int32) < 0 ∨ c15.slots.size ≤ ((2 : Int32)).toNatClampNeg) := inb_of S15 ⟨by decide, by decide⟩
  have hat15 : c15.slots[((2 : Int32)).toNatClampNeg]? = some (.int i6) := Hh15.at hin15 rfl
  obtain ⟨c16, Ar16, q16, S16, M16, Hh16, G16⟩ := (id v11)
  have hin16 : ¬ ((2 : Int32) < 0 ∨ c16.slots.size ≤ ((2 : Int32)).toNatClampNeg) := inb_of S16 ⟨by decide, by decide⟩
  obtain ⟨T17, h17, X17, e17, W17, st17⟩ := stB X10 hx hZ e10 Ar16 (j := (2 : Int32)) hin16 (g := (mkF m 31 #[.val (.ref a1), .val (.int (2 : Int32)), .val (.ref a2), .val (.int (2 : Int32)), .val (.int (3 : Int32)), .val (.int (2 : Int32)), .val (.int i6)] [(.int (i6.toInt8.toInt32)), (.int (2 : Int32)), (.ref a2)])) rfl rfl (hb hby d_jdk_52_method_21_31)
  have v18 : Arv Z h17 a2 k7 .byte (3 : Int32) [(.int (nar .byte (i4.toInt8.toInt32))), (.int (nar .byte (i5.toInt8.toInt32))), (.int (nar .byte (i6.toInt8.toInt32)))] (.int (0 : Int32)) := Arv.set Ar16 q16 S16 M16 Hh16 G16 (fits_nar_byte _) W17 2 rfl (Nat.le_of_ble_eq_true rfl)
  have N17 := Fr.snoc X17 N10 g_a2
  have O19 : Old Z n0 h17 := Old.wr O12 W17 g_a2
  have K20 : Keep h0 h17 [a2] := K13.wr W17 (Or.inl (List.mem_of_getElem? (i := 0) rfl))
  obtain ⟨fs, hr, hrun, hended, hW, hsame⟩ := X17.leave (v := (some (.int (3 : Int32)))) (fun h => by rw [Bd.returns] at h; cases h)
  refine ⟨_, _, pre0 _ ?_, hrun, hended, _, _, rfl, ?_, ⟨_, rfl⟩, hW, hsame.mono (by decide) (by decide)⟩
  · refine XS.iconst X0.here hx rfl (hb hby d_jdk_52_method_21_0) ?_
    refine XS.istore X0.here hx rfl (hb hby d_jdk_52_method_21_1) rfl (l' := #[.val (.ref a1), .val (.int (0 : Int32)), .val (.ref a2), .val (.int (0 : Int32)), .val (.int (3 : Int32)), .val (.int (0 : Int32)), .unset]) rfl ?_
    refine XS.iload X0.here hx rfl (hb hby d_jdk_52_method_21_3) rfl ?_
    refine XS.iload X0.here hx rfl (hb hby d_jdk_52_method_21_5) rfl ?_
    refine XS.icmpNo X0.here hx rfl (hb hby d_jdk_52_method_21_7) rfl (tlt (by decide : (0 : Int32) < (3 : Int32))).2.1 ?_
    refine XS.aloadN X0.here hx rfl (hb hby d_jdk_52_method_21_10) rfl rfl ?_
    refine XS.iloadN X0.here hx rfl (hb hby d_jdk_52_method_21_11) rfl ?_
    refine X0.caload hx (j := (0 : Int32)) (v := (.int i4)) (by rw [e0]; exact Ar1.1) (State.isArrayOf_alike hZ.alike Ar1.2.1) Ar1.2.2 hin1 hat1 (g := (mkF m 12 #[.val (.ref a1), .val (.int (0 : Int32)), .val (.ref a2), .val (.int (0 : Int32)), .val (.int (3 : Int32)), .val (.int (0 : Int32)), .unset] [(.int (0 : Int32)), (.ref a1)])) rfl rfl (hb hby d_jdk_52_method_21_12) _ ?_
    refine XS.istore X0.here hx rfl (hb hby d_jdk_52_method_21_13) rfl (l' := #[.val (.ref a1), .val (.int (0 : Int32)), .val (.ref a2), .val (.int (0 : Int32)), .val (.int (3 : Int32)), .val (.int (0 : Int32)), .val (.int i4)]) rfl ?_
    refine XS.iload X0.here hx rfl (hb hby d_jdk_52_method_21_15) rfl ?_
    refine XS.sipush X0.here hx rfl (hb hby d_jdk_52_method_21_17) ?_
    refine XS.icmpYes X0.here hx rfl (pc0 := 20) (pc' := 26) rfl (hb hby d_jdk_52_method_21_20) rfl (flt hy3).2.2.2 (by decide) (by decide) ?_
    refine XS.aloadN X0.here hx rfl (hb hby d_jdk_52_method_21_26) rfl rfl ?_
    refine XS.iloadN X0.here hx rfl (hb hby d_jdk_52_method_21_27) rfl ?_
    refine XS.iload X0.here hx rfl (hb hby d_jdk_52_method_21_28) rfl ?_
    refine XS.i2b X0.here hx rfl (hb hby d_jdk_52_method_21_30) rfl ?_
    refine st3 _ ?_
    refine XS.iinc X3.here hx rfl (hb hby d_jdk_52_method_21_32) rfl (l' := #[.val (.ref a1), .val (.int (1 : Int32)), .val (.ref a2), .val (.int (0 : Int32)), .val (.int (3 : Int32)), .val (.int (0 : Int32)), .val (.int i4)]) rfl ?_
    refine XS.iinc X3.here hx rfl (hb hby d_jdk_52_method_21_35) rfl (l' := #[.val (.ref a1), .val (.int (1 : Int32)), .val (.ref a2), .val (.int (1 : Int32)), .val (.int (3 : Int32)), .val (.int (0 : Int32)), .val (.int i4)]) rfl ?_
    refine XS.iinc X3.here hx rfl (hb hby d_jdk_52_method_21_38) rfl (l' := #[.val (.ref a1), .val (.int (1 : Int32)), .val (.ref a2), .val (.int (1 : Int32)), .val (.int (3 : Int32)), .val (.int (1 : Int32)), .val (.int i4)]) rfl ?_
    refine XS.goto X3.here hx rfl (pc0 := 41) (pc' := 3) rfl (hb hby d_jdk_52_method_21_41) (by decide) (by decide) ?_
    refine XS.iload X3.here hx rfl (hb hby d_jdk_52_method_21_3) rfl ?_
    refine XS.iload X3.here hx rfl (hb hby d_jdk_52_method_21_5) rfl ?_
    refine XS.icmpNo X3.here hx rfl (hb hby d_jdk_52_method_21_7) rfl (tlt (by decide : (1 : Int32) < (3 : Int32))).2.1 ?_
    refine XS.aloadN X3.here hx rfl (hb hby d_jdk_52_method_21_10) rfl rfl ?_
    refine XS.iloadN X3.here hx rfl (hb hby d_jdk_52_method_21_11) rfl ?_
    refine X3.caload hx (j := (1 : Int32)) (v := (.int i5)) (by rw [e3]; exact Ar8.1) (State.isArrayOf_alike hZ.alike Ar8.2.1) Ar8.2.2 hin8 hat8 (g := (mkF m 12 #[.val (.ref a1), .val (.int (1 : Int32)), .val (.ref a2), .val (.int (1 : Int32)), .val (.int (3 : Int32)), .val (.int (1 : Int32)), .val (.int i4)] [(.int (1 : Int32)), (.ref a1)])) rfl rfl (hb hby d_jdk_52_method_21_12) _ ?_
    refine XS.istore X3.here hx rfl (hb hby d_jdk_52_method_21_13) rfl (l' := #[.val (.ref a1), .val (.int (1 : Int32)), .val (.ref a2), .val (.int (1 : Int32)), .val (.int (3 : Int32)), .val (.int (1 : Int32)), .val (.int i5)]) rfl ?_
    refine XS.iload X3.here hx rfl (hb hby d_jdk_52_method_21_15) rfl ?_
    refine XS.sipush X3.here hx rfl (hb hby d_jdk_52_method_21_17) ?_
    refine XS.icmpYes X3.here hx rfl (pc0 := 20) (pc' := 26) rfl (hb hby d_jdk_52_method_21_20) rfl (flt hy4).2.2.2 (by decide) (by decide) ?_
    refine XS.aloadN X3.here hx rfl (hb hby d_jdk_52_method_21_26) rfl rfl ?_
    refine XS.iloadN X3.here hx rfl (hb hby d_jdk_52_method_21_27) rfl ?_
    refine XS.iload X3.here hx rfl (hb hby d_jdk_52_method_21_28) rfl ?_
    refine XS.i2b X3.here hx rfl (hb hby d_jdk_52_method_21_30) rfl ?_
    refine st10 _ ?_
    refine XS.iinc X10.here hx rfl (hb hby d_jdk_52_method_21_32) rfl (l' := #[.val (.ref a1), .val (.int (2 : Int32)), .val (.ref a2), .val (.int (1 : Int32)), .val (.int (3 : Int32)), .val (.int (1 : Int32)), .val (.int i5)]) rfl ?_
    refine XS.iinc X10.here hx rfl (hb hby d_jdk_52_method_21_35) rfl (l' := #[.val (.ref a1), .val (.int (2 : Int32)), .val (.ref a2), .val (.int (2 : Int32)), .val (.int (3 : Int32)), .val (.int (1 : Int32)), .val (.int i5)]) rfl ?_
    refine XS.iinc X10.here hx rfl (hb hby d_jdk_52_method_21_38) rfl (l' := #[.val (.ref a1), .val (.int (2 : Int32)), .val (.ref a2), .val (.int (2 : Int32)), .val (.int (3 : Int32)), .val (.int (2 : Int32)), .val (.int i5)]) rfl ?_
    refine XS.goto X10.here hx rfl (pc0 := 41) (pc' := 3) rfl (hb hby d_jdk_52_method_21_41) (by decide) (by decide) ?_
    refine XS.iload X10.here hx rfl (hb hby d_jdk_52_method_21_3) rfl ?_
    refine XS.iload X10.here hx rfl (hb hby d_jdk_52_method_21_5) rfl ?_
    refine XS.icmpNo X10.here hx rfl (hb hby d_jdk_52_method_21_7) rfl (tlt (by decide : (2 : Int32) < (3 : Int32))).2.1 ?_
    refine XS.aloadN X10.here hx rfl (hb hby d_jdk_52_method_21_10) rfl rfl ?_
    refine XS.iloadN X10.here hx rfl (hb hby d_jdk_52_method_21_11) rfl ?_
    refine X10.caload hx (j := (2 : Int32)) (v := (.int i6)) (by rw [e10]; exact Ar15.1) (State.isArrayOf_alike hZ.alike Ar15.2.1) Ar15.2.2 hin15 hat15 (g := (mkF m 12 #[.val (.ref a1), .val (.int (2 : Int32)), .val (.ref a2), .val (.int (2 : Int32)), .val (.int (3 : Int32)), .val (.int (2 : Int32)), .val (.int i5)] [(.int (2 : Int32)), (.ref a1)])) rfl rfl (hb hby d_jdk_52_method_21_12) _ ?_
    refine XS.istore X10.here hx rfl (hb hby d_jdk_52_method_21_13) rfl (l' := #[.val (.ref a1), .val (.int (2 : Int32)), .val (.ref a2), .val (.int (2 : Int32)), .val (.int (3 : Int32)), .val (.int (2 : Int32)), .val (.int i6)]) rfl ?_
    refine XS.iload X10.here hx rfl (hb hby d_jdk_52_method_21_15) rfl ?_
    refine XS.sipush X10.here hx rfl (hb hby d_jdk_52_method_21_17) ?_
    refine XS.icmpYes X10.here hx rfl (pc0 := 20) (pc' := 26) rfl (hb hby d_jdk_52_method_21_20) rfl (flt hy5).2.2.2 (by decide) (by decide) ?_
    refine XS.aloadN X10.here hx rfl (hb hby d_jdk_52_method_21_26) rfl rfl ?_
    refine XS.iloadN X10.here hx rfl (hb hby d_jdk_52_method_21_27) rfl ?_
    refine XS.iload X10.here hx rfl (hb hby d_jdk_52_method_21_28) rfl ?_
    refine XS.i2b X10.here hx rfl (hb hby d_jdk_52_method_21_30) rfl ?_
    refine st17 _ ?_
    refine XS.iinc X17.here hx rfl (hb hby d_jdk_52_method_21_32) rfl (l' := #[.val (.ref a1), .val (.int (3 : Int32)), .val (.ref a2), .val (.int (2 : Int32)), .val (.int (3 : Int32)), .val (.int (2 : Int32)), .val (.int i6)]) rfl ?_
    refine XS.iinc X17.here hx rfl (hb hby d_jdk_52_method_21_35) rfl (l' := #[.val (.ref a1), .val (.int (3 : Int32)), .val (.ref a2), .val (.int (3 : Int32)), .val (.int (3 : Int32)), .val (.int (2 : Int32)), .val (.int i6)]) rfl ?_
    refine XS.iinc X17.here hx rfl (hb hby d_jdk_52_method_21_38) rfl (l' := #[.val (.ref a1), .val (.int (3 : Int32)), .val (.ref a2), .val (.int (3 : Int32)), .val (.int (3 : Int32)), .val (.int (3 : Int32)), .val (.int i6)]) rfl ?_
    refine XS.goto X17.here hx rfl (pc0 := 41) (pc' := 3) rfl (hb hby d_jdk_52_method_21_41) (by decide) (by decide) ?_
    refine XS.iload X17.here hx rfl (hb hby d_jdk_52_method_21_3) rfl ?_
    refine XS.iload X17.here hx rfl (hb hby d_jdk_52_method_21_5) rfl ?_
    refine XS.icmpYes X17.here hx rfl (pc0 := 7) (pc' := 44) rfl (hb hby d_jdk_52_method_21_7) rfl (flt (by decide : ¬ ((3 : Int32) < (3 : Int32)))).2.1 (by decide) (by decide) ?_
    refine XS.iload X17.here hx rfl (hb hby d_jdk_52_method_21_44) rfl ?_
    exact retI X17 hx Bd.returns (hb hby d_jdk_52_method_21_46) hr
  · show Q_rc94_compress Z a1 a2 k3 i4 i5 i6 k7 h0 n0 _ T17.heap _
    rw [e17]
    exact ⟨rfl, N17, K20, v18⟩
def Q_rc93_compress (Z : State) (a1 : Addr) (k2 : ClassId) (i3 : Int32) (i4 : Int32) (i5 : Int32) (h0 : Heap) (n0 : Nat) (v : Option Value) (h : Heap) (L : List Loc) : Prop := ∃ (b1 : Addr), ∃ (k1 : ClassId), v = some (.ref b1) ∧ Fr n0 L ∧ Keep h0 h [] ∧ h0.size ≤ b1 ∧ Arv Z h b1 k1 .byte (3 : Int32) [(.int (nar .byte (i3.toInt8.toInt32))), (.int (nar .byte (i4.toInt8.toInt32))), (.int (nar .byte (i5.toInt8.toInt32)))] (.int (0 : Int32))
set_option maxRecDepth 65536 in
set_option maxHeartbeats 40000000 in
theorem rc93_compress (l : Launch) (Z : State) (a0 : Array Value) (hw : ∀ d ∈ tables_1, d.before a0 Z = true) (ws : List Jvm.Cond) (cs : Int32) (hS : SB Z cs) (a1 : Addr) (k2 : ClassId) (i3 : Int32) (i4 : Int32) (i5 : Int32) (h0 : Heap) (n0 : Nat) (O0 : Old Z n0 h0) (g_a1 : n0 ≤ a1) (V_a1 : Arv Z h0 a1 k2 .char (3 : Int32) [(.int i3), (.int i4), (.int i5)] (.int (0 : Int32))) (hy3 : ¬ (255 : Int32) < i3) (hy4 : ¬ (255 : Int32) < i4) (hy5 : ¬ (255 : Int32) < i5) :
    Met l my_11 jdk_52_method_16_code 6 (some (.array .byte)) ws ({ frames := 1, cells := 1, slots := 3, locals := 18 } : Room) #[(.ref a1), (.int (0 : Int32)), (.int (3 : Int32))] Z h0 (Q_rc93_compress Z a1 k2 i3 i4 i5 h0 n0) := by
  refine MetFree.of_bodySF (plainFor_of_name pn_3) hisR ?_
  intro p e s m args below meth c s₁ Bd hml0 hP hK
  obtain ⟨rfl, hZ, hh⟩ := hP
  have hx := Bd.exec
  have hby := Bd.bytes
  have hml : c.maxLocals = 6 := hml0
  have hown : s.vm.findClass nString_1 = some m.cls := findClass_of_methodNamed Bd.named
  have hnm := (name_of_methodNamed Bd.named Bd.method).1
  have X0 : Stand p l e ({ frames := 1, cells := 1, slots := 3, locals := 18 } : Room) s m #[(.ref a1), (.int (0 : Int32)), (.int (3 : Int32))] below meth c s₁ [] 0 0 := Stand.of_body Bd
  have e0 : s₁.heap = h0 := by rw [← hh, Bd.state]; rfl
  have N0 := Fr.nil n0
  obtain ⟨f₀, hf₀⟩ : ∃ f, f = entryFrame m #[(.ref a1), (.int (0 : Int32)), (.int (3 : Int32))] 6 := ⟨_, rfl⟩
  rw [← hf₀]
  have pre0 : Go p e below s₁ f₀ s₁ (mkF m 0 #[.val (.ref a1), .val (.int (0 : Int32)), .val (.int (3 : Int32)), .unset, .unset, .unset] []) := fun t k => castTop (hf₀.trans (ef_rc93_compress m (a1) ((0 : Int32)) ((3 : Int32)))) k
  obtain ⟨T1, h1, k1, X1, e1, E1, A1, st1⟩ := newP X0 hx hZ (wq hw 20 rfl) e0 (g := (mkF m 1 #[.val (.ref a1), .val (.int (0 : Int32)), .val (.int (3 : Int32)), .unset, .unset, .unset] [(.int (3 : Int32))])) rfl (hb hby d_jdk_52_method_16_1) rfl (by decide) (cap := 3) (by decide) (by decide) (by decide) (by decide)
  obtain ⟨b1, gb1⟩ : ∃ z, z = h0.size := ⟨_, rfl⟩
  rw [← gb1] at A1 st1
  have ne2 : a1 ≠ b1 := Nat.ne_of_lt (Nat.lt_of_lt_of_le V_a1.lt (Nat.le_of_eq gb1.symm))
  have g3 : n0 ≤ b1 := Nat.le_trans (Nat.le_of_eq O0.1.symm) (Nat.le_trans O0.2.1 (Nat.le_of_eq gb1.symm))
  have s4 : h0.size ≤ b1 := Nat.le_trans (Keep.refl h0 []).1 (Nat.le_of_eq gb1.symm)
  have O5 : Old Z n0 h1 := Old.ext O0 E1
  have K6 : Keep h0 h1 [] := (Keep.refl h0 []).ext E1
  have v7 : Arv Z h1 b1 k1 .byte (3 : Int32) [(.int (0 : Int32)), (.int (0 : Int32)), (.int (0 : Int32))] (.int (0 : Int32)) := (Arv.new A1 (by decide)).pad (pad_rep [] (.int (0 : Int32)) 3)
  have t8 : Arv Z h1 a1 k2 .char (3 : Int32) [(.int i3), (.int i4), (.int i5)] (.int (0 : Int32)) := (V_a1.ext E1)
  obtain ⟨_, _, ⟨T9, L9, k9, n9⟩, -, X9, ⟨Lc9, hQ9, l9, y9, z9⟩, st9⟩ := Jvm.LawKit.callS X1 hx (y := my_5) hown (mvT hZ (wq hw 41 rfl)) (mvT hZ (wq hw 42 rfl)) (mvT hZ (wq hw 39 rfl)) (mvT hZ (wq hw 43 rfl)) (by decide) (backOf (W := 0) (rc94_compress l Z a0 hw [] cs hS a1 b1 k2 i3 i4 i5 k1 h1 n0 O5 g_a1 g3 t8 v7 hy3 hy4 hy5 ne2) hZ (wq hw 43 rfl) (wq hw 39 rfl) (by decide) (by decide)) (g := (mkF m 9 #[.val (.ref a1), .val (.int (0 : Int32)), .val (.int (3 : Int32)), .val (.ref b1), .unset, .unset] [(.int (3 : Int32)), (.int (0 : Int32)), (.ref b1), (.int (0 : Int32)), (.ref a1)])) rfl (by rw [hml]; rfl) (argsL := [(.ref a1), (.int (0 : Int32)), (.ref b1), (.int (0 : Int32)), (.int (3 : Int32))]) (rest := []) (lenOf pd_5 rfl) rfl (by show 2 * 0 + _ ≤ _; exact Nat.le_of_eq rfl) (hb hby d_jdk_52_method_16_9) (fun _ _ => ⟨rfl, e1, (by decide : 1 + 0 ≤ _), (by decide : 3 + 0 ≤ _)⟩)
  dsimp only [Pt.U, Pt.locs, Pt.cells, Pt.slots] at X9 l9 y9 z9 st9 hQ9
  have X9 := own_to X9 l9 y9 z9
  obtain ⟨rfl, N9q, K9, q9_0⟩ := hQ9
  have N9 := Fr.app N0 N9q
  have O10 : Old Z n0 T9.heap := Old.keep O5 K9 (allS g3 all0)
  have K11 : Keep h0 T9.heap [] := K6.trans K9 (allS (Or.inr s4) all0)
  obtain ⟨fs, hr, hrun, hended, hW, hsame⟩ := X9.leave (v := (some (.ref b1))) (fun h => by rw [Bd.returns] at h; cases h)
  refine ⟨_, _, pre0 _ ?_, hrun, hended, _, _, rfl, ?_, ⟨_, rfl⟩, hW, hsame.mono (by decide) (by decide)⟩
  · refine XS.iloadN X0.here hx rfl (hb hby d_jdk_52_method_16_0) rfl ?_
    refine st1 _ ?_
    refine XS.astoreN X1.here hx rfl (hb hby d_jdk_52_method_16_3) rfl rfl (l' := #[.val (.ref a1), .val (.int (0 : Int32)), .val (.int (3 : Int32)), .val (.ref b1), .unset, .unset]) rfl ?_
    refine XS.aloadN X1.here hx rfl (hb hby d_jdk_52_method_16_4) rfl rfl ?_
    refine XS.iloadN X1.here hx rfl (hb hby d_jdk_52_method_16_5) rfl ?_
    refine XS.aloadN X1.here hx rfl (hb hby d_jdk_52_method_16_6) rfl rfl ?_
    refine XS.iconst X1.here hx rfl (hb hby d_jdk_52_method_16_7) ?_
    refine XS.iloadN X1.here hx rfl (hb hby d_jdk_52_method_16_8) rfl ?_
    refine st9 _ ?_
    refine XS.istore X9.here hx rfl (hb hby d_jdk_52_method_16_12) rfl (l' := #[.val (.ref a1), .val (.int (0 : Int32)), .val (.int (3 : Int32)), .val (.ref b1), .val (.int (3 : Int32)), .unset]) rfl ?_
    refine XS.iload X9.here hx rfl (hb hby d_jdk_52_method_16_14) rfl ?_
    refine XS.iloadN X9.here hx rfl (hb hby d_jdk_52_method_16_16) rfl ?_
    refine XS.icmpYes X9.here hx rfl (pc0 := 17) (pc' := 57) rfl (hb hby d_jdk_52_method_16_17) rfl (teq (by decide : (3 : Int32) = (3 : Int32))).1 (by decide) (by decide) ?_
    refine XS.aloadN X9.here hx rfl (hb hby d_jdk_52_method_16_57) rfl rfl ?_
    exact retOut X9 hx Bd.returns rfl (Or.inr (Or.inr (Or.inr (Or.inr ⟨rfl, rfl, rfl⟩)))) (hb hby d_jdk_52_method_16_58) hr
  · show Q_rc93_compress Z a1 k2 i3 i4 i5 h0 n0 _ T9.heap _
    exact ⟨b1, k1, rfl, N9, K11, s4, q9_0⟩
def Q_rc95_coderFromArrayLen (Z : State) (a1 : Addr) (k2 : ClassId) (i3 : Int32) (i4 : Int32) (i5 : Int32) (h0 : Heap) (n0 : Nat) (v : Option Value) (h : Heap) (L : List Loc) : Prop := v = some (.int (0 : Int32)) ∧ Fr n0 L ∧ h = h0
set_option maxRecDepth 65536 in
set_option maxHeartbeats 40000000 in
theorem rc95_coderFromArrayLen (l : Launch) (Z : State) (a0 : Array Value) (hw : ∀ d ∈ tables_1, d.before a0 Z = true) (ws : List Jvm.Cond) (cs : Int32) (hS : SB Z cs) (a1 : Addr) (k2 : ClassId) (i3 : Int32) (i4 : Int32) (i5 : Int32) (h0 : Heap) (n0 : Nat) (O0 : Old Z n0 h0) (g_a1 : n0 ≤ a1) (V_a1 : Arv Z h0 a1 k2 .byte (3 : Int32) [(.int i3), (.int i4), (.int i5)] (.int (0 : Int32))) :
    Met l my_12 jdk_52_method_15_code 2 (some .byte) ws ({ frames := 0, cells := 0, slots := 0, locals := 0 } : Room) #[(.ref a1), (.int (3 : Int32))] Z h0 (Q_rc95_coderFromArrayLen Z a1 k2 i3 i4 i5 h0 n0) := by
  refine MetFree.of_bodySF (plainFor_of_name pn_3) hisR ?_
  intro p e s m args below meth c s₁ Bd hml0 hP hK
  obtain ⟨rfl, hZ, hh⟩ := hP
  have hx := Bd.exec
  have hby := Bd.bytes
  have hml : c.maxLocals = 2 := hml0
  have hown : s.vm.findClass nString_1 = some m.cls := findClass_of_methodNamed Bd.named
  have hnm := (name_of_methodNamed Bd.named Bd.method).1
  have X0 : Stand p l e ({ frames := 0, cells := 0, slots := 0, locals := 0 } : Room) s m #[(.ref a1), (.int (3 : Int32))] below meth c s₁ [] 0 0 := Stand.of_body Bd
  have e0 : s₁.heap = h0 := by rw [← hh, Bd.state]; rfl
  have N0 := Fr.nil n0
  obtain ⟨f₀, hf₀⟩ : ∃ f, f = entryFrame m #[(.ref a1), (.int (3 : Int32))] 2 := ⟨_, rfl⟩
  rw [← hf₀]
  have pre0 : Go p e below s₁ f₀ s₁ (mkF m 0 #[.val (.ref a1), .val (.int (3 : Int32))] []) := fun t k => castTop (hf₀.trans (ef_rc95_coderFromArrayLen m (a1) ((3 : Int32)))) k
  obtain ⟨c1, Ar1, q1, S1, M1, Hh1, G1⟩ := (id V_a1)
  obtain ⟨fs, hr, hrun, hended, hW, hsame⟩ := X0.leave (v := (some (.int (0 : Int32)))) (fun h => by rw [Bd.returns] at h; cases h)
  refine ⟨_, _, pre0 _ ?_, hrun, hended, _, _, rfl, ?_, ⟨_, rfl⟩, hW, hsame.mono (by decide) (by decide)⟩
  · refine XS.iloadN X0.here hx rfl (hb hby d_jdk_52_method_15_0) rfl ?_
    refine XS.aloadN X0.here hx rfl (hb hby d_jdk_52_method_15_1) rfl rfl ?_
    refine X0.arraylength hx (by rw [e0]; exact Ar1.1) (State.isArrayOf_alike hZ.alike Ar1.2.1) (g := (mkF m 2 #[.val (.ref a1), .val (.int (3 : Int32))] [(.ref a1), (.int (3 : Int32))])) rfl rfl (hb hby d_jdk_52_method_15_2) _ ?_
    rw [len_of S1 M1]
    refine XS.isub X0.here hx rfl (hb hby d_jdk_52_method_15_3) rfl ?_
    show Steps p.tables e below (s₁.setTop (mkF m 4 #[.val (.ref a1), .val (.int (3 : Int32))] [(.int (0 : Int32))])) _
    refine XS.bipush X0.here hx rfl (hb hby d_jdk_52_method_15_4) ?_
    refine XS.iushr X0.here hx rfl (hb hby d_jdk_52_method_15_6) rfl ?_
    show Steps p.tables e below (s₁.setTop (mkF m 7 #[.val (.ref a1), .val (.int (3 : Int32))] [(.int (0 : Int32))])) _
    refine XS.i2b X0.here hx rfl (hb hby d_jdk_52_method_15_7) rfl ?_
    show Steps p.tables e below (s₁.setTop (mkF m 8 #[.val (.ref a1), .val (.int (3 : Int32))] [(.int (0 : Int32))])) _
    exact retN X0 hx (t := .byte) Bd.returns (by simp) (hb hby d_jdk_52_method_15_8) hr
  · show Q_rc95_coderFromArrayLen Z a1 k2 i3 i4 i5 h0 n0 _ s₁.heap _
    rw [e0]
    exact ⟨rfl, N0, rfl⟩
def Q_rc92_init (Z : State) (a1 : Addr) (a2 : Addr) (k3 : ClassId) (i4 : Int32) (i5 : Int32) (i6 : Int32) (h0 : Heap) (n0 : Nat) (v : Option Value) (h : Heap) (L : List Loc) : Prop := ∃ (x3_b1 : Addr), ∃ (x3_k1 : ClassId), v = none ∧ Fr n0 L ∧ Keep h0 h [a1] ∧ h0.size ≤ x3_b1 ∧ Exa Z h a1 nString_0 ∧ Fld Z h a1 nString_0 "coder" "B" (.int (0 : Int32)) ∧ Fld Z h a1 nString_0 "value" "[B" (.ref x3_b1) ∧ Arv Z h x3_b1 x3_k1 .byte (3 : Int32) [(.int (nar .byte (i4.toInt8.toInt32))), (.int (nar .byte (i5.toInt8.toInt32))), (.int (nar .byte (i6.toInt8.toInt32)))] (.int (0 : Int32))
set_option maxRecDepth 65536 in
set_option maxHeartbeats 40000000 in
theorem rc92_init (l : Launch) (Z : State) (a0 : Array Value) (hw : ∀ d ∈ tables_1, d.before a0 Z = true) (ws : List Jvm.Cond) (cs : Int32) (hS : SB Z cs) (a1 : Addr) (a2 : Addr) (k3 : ClassId) (i4 : Int32) (i5 : Int32) (i6 : Int32) (h0 : Heap) (n0 : Nat) (O0 : Old Z n0 h0) (g_a1 : n0 ≤ a1) (g_a2 : n0 ≤ a2) (E_a1 : Exa Z h0 a1 nString_0) (F_a1_coder : Fld Z h0 a1 nString_0 "coder" "B" (.int (0 : Int32))) (F_a1_value : Fld Z h0 a1 nString_0 "value" "[B" .null) (V_a2 : Arv Z h0 a2 k3 .char (3 : Int32) [(.int i4), (.int i5), (.int i6)] (.int (0 : Int32))) (hy3 : ¬ (255 : Int32) < i4) (hy4 : ¬ (255 : Int32) < i5) (hy5 : ¬ (255 : Int32) < i6) :
    Met l my_1 jdk_42_method_149_code 6 none ws ({ frames := 2, cells := 1, slots := 3, locals := 35 } : Room) #[(.ref a1), (.ref a2), (.int (0 : Int32)), (.int (3 : Int32)), .null] Z h0 (Q_rc92_init Z a1 a2 k3 i4 i5 i6 h0 n0) := by
  refine MetFree.of_bodySF (plainFor_of_name pn_1) hisR ?_
  intro p e s m args below meth c s₁ Bd hml0 hP hK
  obtain ⟨rfl, hZ, hh⟩ := hP
  have hx := Bd.exec
  have hby := Bd.bytes
  have hml : c.maxLocals = 6 := hml0
  have hown : s.vm.findClass nString_0 = some m.cls := findClass_of_methodNamed Bd.named
  have hnm := (name_of_methodNamed Bd.named Bd.method).1
  have X0 : Stand p l e ({ frames := 2, cells := 1, slots := 3, locals := 35 } : Room) s m #[(.ref a1), (.ref a2), (.int (0 : Int32)), (.int (3 : Int32)), .null] below meth c s₁ [] 0 0 := Stand.of_body Bd
  have e0 : s₁.heap = h0 := by rw [← hh, Bd.state]; rfl
  have N0 := Fr.nil n0
  obtain ⟨f₀, hf₀⟩ : ∃ f, f = entryFrame m #[(.ref a1), (.ref a2), (.int (0 : Int32)), (.int (3 : Int32)), .null] 6 := ⟨_, rfl⟩
  rw [← hf₀]
  have pre0 : Go p e below s₁ f₀ s₁ (mkF m 0 #[.val (.ref a1), .val (.ref a2), .val (.int (0 : Int32)), .val (.int (3 : Int32)), .val .null, .unset] []) := fun t k => castTop (hf₀.trans (ef_rc92_init m (a1) (a2) ((0 : Int32)) ((3 : Int32)))) k
  obtain ⟨T1, X1, e1, st1⟩ := initO X0 hx hZ hown (wq hw 16 rfl) (wq hw 17 rfl) (wq hw 18 rfl) e0 (g := (mkF m 1 #[.val (.ref a1), .val (.ref a2), .val (.int (0 : Int32)), .val (.int (3 : Int32)), .val .null, .unset] [(.ref a1)])) rfl (by rw [hml]; rfl) rfl (hb hby d_jdk_42_method_149_1) (by decide) (W := 0) (by show 2 * 0 + _ ≤ _; exact Nat.le_of_eq rfl) (by decide)
  obtain ⟨T2, X2, e2, st2⟩ := getS2 X1 hx hZ hown (host := "") (Or.inl (wq hw 36 rfl)) Via.refl e1 (hS.1.ext O0.2) (g := (mkF m 27 #[.val (.ref a1), .val (.ref a2), .val (.int (0 : Int32)), .val (.int (3 : Int32)), .val .null, .unset] [])) rfl (hb hby d_jdk_42_method_149_27)
  obtain ⟨_, _, ⟨T3, L3, k3, n3⟩, -, X3, ⟨Lc3, hQ3, l3, y3, z3⟩, st3⟩ := Jvm.LawKit.callS X2 hx (y := my_11) hown (mvT hZ (wq hw 37 rfl)) (mvT hZ (wq hw 38 rfl)) (mvT hZ (wq hw 39 rfl)) (mvT hZ (wq hw 40 rfl)) (by decide) (backOf (W := 0) (rc93_compress l Z a0 hw [] cs hS a2 k3 i4 i5 i6 h0 n0 O0 g_a2 V_a2 hy3 hy4 hy5) hZ (wq hw 40 rfl) (wq hw 39 rfl) (by decide) (by decide)) (g := (mkF m 36 #[.val (.ref a1), .val (.ref a2), .val (.int (0 : Int32)), .val (.int (3 : Int32)), .val .null, .unset] [(.int (3 : Int32)), (.int (0 : Int32)), (.ref a2)])) rfl (by rw [hml]; rfl) (argsL := [(.ref a2), (.int (0 : Int32)), (.int (3 : Int32))]) (rest := []) (lenOf pd_9 rfl) rfl (by show 2 * 0 + _ ≤ _; exact Nat.le_of_eq rfl) (hb hby d_jdk_42_method_149_36) (fun _ _ => ⟨rfl, e2, (by decide : 0 + 1 ≤ _), (by decide : 0 + 3 ≤ _)⟩)
  dsimp only [Pt.U, Pt.locs, Pt.cells, Pt.slots] at X3 l3 y3 z3 st3 hQ3
  have X3 := own_to X3 l3 y3 z3
  obtain ⟨x3_b1, x3_k1, rfl, N3q, K3, sz3_b1, q3_0⟩ := hQ3
  have N3 := Fr.app N0 N3q
  have g4 : n0 ≤ x3_b1 := Nat.le_trans (Nat.le_of_eq O0.1.symm) (Nat.le_trans O0.2.1 sz3_b1)
  have s5 : h0.size ≤ x3_b1 := Nat.le_trans (Keep.refl h0 [a1]).1 sz3_b1
  have ne6 : a1 ≠ x3_b1 := Nat.ne_of_lt (Nat.lt_of_lt_of_le E_a1.lt sz3_b1)
  have ne7 : a2 ≠ x3_b1 := Nat.ne_of_lt (Nat.lt_of_lt_of_le V_a2.lt sz3_b1)
  have O8 : Old Z n0 T3.heap := Old.keep O0 K3 all0
  have K9 : Keep h0 T3.heap [a1] := (Keep.refl h0 [a1]).trans K3 all0
  obtain ⟨_, _, ⟨T10, L10, k10, n10⟩, -, X10, ⟨Lc10, hQ10, l10, y10, z10⟩, st10⟩ := Jvm.LawKit.callS X3 hx (y := my_12) hown (mvT hZ (wq hw 44 rfl)) (mvT hZ (wq hw 45 rfl)) (mvT hZ (wq hw 39 rfl)) (mvT hZ (wq hw 46 rfl)) (by decide) (backOf (W := 1) (rc95_coderFromArrayLen l Z a0 hw [] cs hS x3_b1 x3_k1 (nar .byte (i4.toInt8.toInt32)) (nar .byte (i5.toInt8.toInt32)) (nar .byte (i6.toInt8.toInt32)) T3.heap n0 O8 g4 q3_0) hZ (wq hw 46 rfl) (wq hw 39 rfl) (by decide) (by decide)) (g := (mkF m 45 #[.val (.ref a1), .val (.ref a2), .val (.int (0 : Int32)), .val (.int (3 : Int32)), .val .null, .val (.ref x3_b1)] [(.int (3 : Int32)), (.ref x3_b1), (.ref a1)])) rfl (by rw [hml]; rfl) (argsL := [(.ref x3_b1), (.int (3 : Int32))]) (rest := [(.ref a1)]) (lenOf pd_11 rfl) rfl (by show 2 * 0 + _ ≤ _; exact Nat.le_of_eq rfl) (hb hby d_jdk_42_method_149_45) (fun _ _ => ⟨rfl, rfl, (by decide : 1 + 0 ≤ _), (by decide : 3 + 0 ≤ _)⟩)
  dsimp only [Pt.U, Pt.locs, Pt.cells, Pt.slots] at X10 l10 y10 z10 st10 hQ10
  have X10 := own_to X10 l10 y10 z10
  obtain ⟨rfl, N10q, e10⟩ := hQ10
  have N10 := Fr.app N3 N10q
  have t11 : Exa Z T3.heap a1 nString_0 := (E_a1.keep K3)
  have t12 : Fld Z T3.heap a1 nString_0 "coder" "B" (.int (0 : Int32)) := (F_a1_coder.keep K3 nin0)
  obtain ⟨T13, h13, X13, e13, W13, st13⟩ := putFN X10 hx hZ hown (wq hw 26 rfl) Via.refl e10 t12 t11 (Or.inr ⟨(wq hw 22 rfl), rfl, hnm⟩) (wq hw 6 rfl) (ty := .byte) (v' := (.int (0 : Int32))) (by decide) rfl (by decide +kernel) (g := (mkF m 48 #[.val (.ref a1), .val (.ref a2), .val (.int (0 : Int32)), .val (.int (3 : Int32)), .val .null, .val (.ref x3_b1)] [(.int (0 : Int32)), (.ref a1)])) rfl rfl (hb hby d_jdk_42_method_149_48)
  have f14 : Fld Z h13 a1 nString_0 "coder" "B" (.int (0 : Int32)) := t12.same W13
  have N13 := Fr.snoc X13 N10 g_a1
  have O15 : Old Z n0 h13 := Old.wr O8 W13 g_a1
  have K16 : Keep h0 h13 [a1] := K9.wr W13 (Or.inl (List.mem_of_getElem? (i := 0) rfl))
  have t17 : Exa Z h13 a1 nString_0 := (t11.wr W13)
  have t18 : Fld Z h13 a1 nString_0 "value" "[B" .null := ((F_a1_value.keep K3 nin0).other W13 (Or.inr (slot_ne (Or.inr (wq hw 21 rfl)) (Or.inr (wq hw 22 rfl)) (by decide) (t := (.array .byte)) (t' := .byte) (by decide) (by decide))))
  obtain ⟨T19, h19, X19, e19, W19, st19⟩ := putF X13 hx hZ hown (host := "") (Or.inl (wq hw 25 rfl)) Via.refl e13 t18 t17 (Or.inr ⟨(wq hw 21 rfl), rfl, hnm⟩) (wq hw 6 rfl) (ty := (.array .byte)) (by decide) rfl rfl (g := (mkF m 54 #[.val (.ref a1), .val (.ref a2), .val (.int (0 : Int32)), .val (.int (3 : Int32)), .val .null, .val (.ref x3_b1)] [(.ref x3_b1), (.ref a1)])) rfl rfl (hb hby d_jdk_42_method_149_54)
  have f20 : Fld Z h19 a1 nString_0 "value" "[B" (.ref x3_b1) := t18.same W19
  have N19 := Fr.snoc X19 N13 g_a1
  have O21 : Old Z n0 h19 := Old.wr O15 W19 g_a1
  have K22 : Keep h0 h19 [a1] := K16.wr W19 (Or.inl (List.mem_of_getElem? (i := 0) rfl))
  have t23 : Exa Z h19 a1 nString_0 := (t17.wr W19)
  have t24 : Fld Z h19 a1 nString_0 "coder" "B" (.int (0 : Int32)) := (f14.other W19 (Or.inr (slot_ne (Or.inr (wq hw 22 rfl)) (Or.inr (wq hw 21 rfl)) (by decide) (t := .byte) (t' := (.array .byte)) (by decide) (by decide))))
  have t25 : Arv Z h19 x3_b1 x3_k1 .byte (3 : Int32) [(.int (nar .byte (i4.toInt8.toInt32))), (.int (nar .byte (i5.toInt8.toInt32))), (.int (nar .byte (i6.toInt8.toInt32)))] (.int (0 : Int32)) := ((q3_0.other W13 (Ne.symm ne6)).other W19 (Ne.symm ne6))
  obtain ⟨fs, hr, hrun, hended, hW, hsame⟩ := X19.leave (v := none) (fun _ => rfl)
  refine ⟨_, _, pre0 _ ?_, hrun, hended, _, _, rfl, ?_, ⟨_, rfl⟩, hW, hsame.mono (by decide) (by decide)⟩
  · refine XS.aloadN X0.here hx rfl (hb hby d_jdk_42_method_149_0) rfl rfl ?_
    refine st1 _ ?_
    refine XS.iloadN X1.here hx rfl (hb hby d_jdk_42_method_149_4) rfl ?_
    refine XS.ifYes X1.here hx rfl (pc0 := 5) (pc' := 27) rfl (hb hby d_jdk_42_method_149_5) rfl ((if0 _ _).trans (feq (by decide : ¬ ((3 : Int32) = (0 : Int32)))).2) (by decide) (by decide) ?_
    refine st2 _ ?_
    refine XS.ifNo X2.here hx rfl (hb hby d_jdk_42_method_149_30) rfl ((if0 _ _).trans (feq hS.2.1).1) ?_
    refine XS.aloadN X2.here hx rfl (hb hby d_jdk_42_method_149_33) rfl rfl ?_
    refine XS.iloadN X2.here hx rfl (hb hby d_jdk_42_method_149_34) rfl ?_
    refine XS.iloadN X2.here hx rfl (hb hby d_jdk_42_method_149_35) rfl ?_
    refine st3 _ ?_
    refine XS.astore X3.here hx rfl (hb hby d_jdk_42_method_149_39) rfl rfl (l' := #[.val (.ref a1), .val (.ref a2), .val (.int (0 : Int32)), .val (.int (3 : Int32)), .val .null, .val (.ref x3_b1)]) rfl ?_
    refine XS.aloadN X3.here hx rfl (hb hby d_jdk_42_method_149_41) rfl rfl ?_
    refine XS.aload X3.here hx rfl (hb hby d_jdk_42_method_149_42) rfl rfl ?_
    refine XS.iloadN X3.here hx rfl (hb hby d_jdk_42_method_149_44) rfl ?_
    refine st10 _ ?_
    refine st13 _ ?_
    refine XS.aloadN X13.here hx rfl (hb hby d_jdk_42_method_149_51) rfl rfl ?_
    refine XS.aload X13.here hx rfl (hb hby d_jdk_42_method_149_52) rfl rfl ?_
    refine st19 _ ?_
    exact X19.returnOut hx Bd.returns (hb hby d_jdk_42_method_149_57) hr
  · show Q_rc92_init Z a1 a2 k3 i4 i5 i6 h0 n0 _ T19.heap _
    rw [e19]
    exact ⟨x3_b1, x3_k1, rfl, N19, K22, s5, t23, t24, f20, t25⟩
def Q_rc91_init (Z : State) (a1 : Addr) (a2 : Addr) (k3 : ClassId) (i4 : Int32) (i5 : Int32) (i6 : Int32) (h0 : Heap) (n0 : Nat) (v : Option Value) (h : Heap) (L : List Loc) : Prop := ∃ (x2_x3_b1 : Addr), ∃ (x2_x3_k1 : ClassId), v = none ∧ Fr n0 L ∧ Keep h0 h [a1] ∧ h0.size ≤ x2_x3_b1 ∧ Exa Z h a1 nString_0 ∧ Fld Z h a1 nString_0 "coder" "B" (.int (0 : Int32)) ∧ Fld Z h a1 nString_0 "value" "[B" (.ref x2_x3_b1) ∧ Arv Z h x2_x3_b1 x2_x3_k1 .byte (3 : Int32) [(.int (nar .byte (i4.toInt8.toInt32))), (.int (nar .byte (i5.toInt8.toInt32))), (.int (nar .byte (i6.toInt8.toInt32)))] (.int (0 : Int32))
set_option maxRecDepth 65536 in
set_option maxHeartbeats 40000000 in
theorem rc91_init (l : Launch) (Z : State) (a0 : Array Value) (hw : ∀ d ∈ tables_1, d.before a0 Z = true) (ws : List Jvm.Cond) (cs : Int32) (hS : SB Z cs) (a1 : Addr) (a2 : Addr) (k3 : ClassId) (i4 : Int32) (i5 : Int32) (i6 : Int32) (h0 : Heap) (n0 : Nat) (O0 : Old Z n0 h0) (g_a1 : n0 ≤ a1) (g_a2 : n0 ≤ a2) (E_a1 : Exa Z h0 a1 nString_0) (F_a1_coder : Fld Z h0 a1 nString_0 "coder" "B" (.int (0 : Int32))) (F_a1_value : Fld Z h0 a1 nString_0 "value" "[B" .null) (V_a2 : Arv Z h0 a2 k3 .char (3 : Int32) [(.int i4), (.int i5), (.int i6)] (.int (0 : Int32))) (hy3 : ¬ (255 : Int32) < i4) (hy4 : ¬ (255 : Int32) < i5) (hy5 : ¬ (255 : Int32) < i6) :
    Met l my_2 jdk_42_method_3_code 2 none ws ({ frames := 3, cells := 1, slots := 3, locals := 52 } : Room) #[(.ref a1), (.ref a2)] Z h0 (Q_rc91_init Z a1 a2 k3 i4 i5 i6 h0 n0) := by
  refine MetFree.of_bodySF (plainFor_of_name pn_1) hisR ?_
  intro p e s m args below meth c s₁ Bd hml0 hP hK
  obtain ⟨rfl, hZ, hh⟩ := hP
  have hx := Bd.exec
  have hby := Bd.bytes
  have hml : c.maxLocals = 2 := hml0
  have hown : s.vm.findClass nString_0 = some m.cls := findClass_of_methodNamed Bd.named
  have hnm := (name_of_methodNamed Bd.named Bd.method).1
  have X0 : Stand p l e ({ frames := 3, cells := 1, slots := 3, locals := 52 } : Room) s m #[(.ref a1), (.ref a2)] below meth c s₁ [] 0 0 := Stand.of_body Bd
  have e0 : s₁.heap = h0 := by rw [← hh, Bd.state]; rfl
  have N0 := Fr.nil n0
  obtain ⟨f₀, hf₀⟩ : ∃ f, f = entryFrame m #[(.ref a1), (.ref a2)] 2 := ⟨_, rfl⟩
  rw [← hf₀]
  have pre0 : Go p e below s₁ f₀ s₁ (mkF m 0 #[.val (.ref a1), .val (.ref a2)] []) := fun t k => castTop (hf₀.trans (ef_rc91_init m (a1) (a2))) k
  obtain ⟨c1, Ar1, q1, S1, M1, Hh1, G1⟩ := (id V_a2)
  obtain ⟨_, _, ⟨T2, L2, k2, n2⟩, -, X2, ⟨Lc2, hQ2, l2, y2, z2⟩, st2⟩ := X0.specialBack hx (y := my_1) rfl hown (mvT hZ (wq hw 12 rfl)) (mvT hZ (wq hw 13 rfl)) (mvT hZ (wq hw 15 rfl)) (by decide) (backOf (W := 0) (rc92_init l Z a0 hw [] cs hS a1 a2 k3 i4 i5 i6 h0 n0 O0 g_a1 g_a2 E_a1 F_a1_coder F_a1_value V_a2 hy3 hy4 hy5) hZ (wq hw 15 rfl) (wq hw 7 rfl) (by decide) (by decide)) (g := (mkF m 6 #[.val (.ref a1), .val (.ref a2)] [.null, (.int (3 : Int32)), (.int (0 : Int32)), (.ref a2), (.ref a1)])) rfl (by rw [hml]; rfl) (Steps.refl _) (a := a1) (argsL := [(.ref a2), (.int (0 : Int32)), (.int (3 : Int32)), .null]) (rest := []) (lenOf pd_1 rfl) rfl (by show 2 * 0 + _ ≤ _; exact Nat.le_of_eq rfl) (hb hby d_jdk_42_method_3_6) (fun _ _ => ⟨rfl, e0, (by decide : 0 + 1 ≤ _), (by decide : 0 + 3 ≤ _)⟩)
  dsimp only [Pt.U, Pt.locs, Pt.cells, Pt.slots] at X2 l2 y2 z2 st2 hQ2
  have X2 := own_to X2 l2 y2 z2
  obtain ⟨x2_x3_b1, x2_x3_k1, rfl, N2q, K2, sz2_x3_b1, q2_0, q2_1, q2_2, q2_3⟩ := hQ2
  have N2 := Fr.app N0 N2q
  have g3 : n0 ≤ x2_x3_b1 := Nat.le_trans (Nat.le_of_eq O0.1.symm) (Nat.le_trans O0.2.1 sz2_x3_b1)
  have s4 : h0.size ≤ x2_x3_b1 := Nat.le_trans (Keep.refl h0 [a1]).1 sz2_x3_b1
  have ne5 : a1 ≠ x2_x3_b1 := Nat.ne_of_lt (Nat.lt_of_lt_of_le E_a1.lt sz2_x3_b1)
  have ne6 : a2 ≠ x2_x3_b1 := Nat.ne_of_lt (Nat.lt_of_lt_of_le V_a2.lt sz2_x3_b1)
  have O7 : Old Z n0 T2.heap := Old.keep O0 K2 (allS g_a1 all0)
  have K8 : Keep h0 T2.heap [a1] := (Keep.refl h0 [a1]).trans K2 (allS (Or.inl (List.mem_of_getElem? (i := 0) rfl)) all0)
  obtain ⟨fs, hr, hrun, hended, hW, hsame⟩ := X2.leave (v := none) (fun _ => rfl)
  refine ⟨_, _, pre0 _ ?_, hrun, hended, _, _, rfl, ?_, ⟨_, rfl⟩, hW, hsame.mono (by decide) (by decide)⟩
  · refine XS.aloadN X0.here hx rfl (hb hby d_jdk_42_method_3_0) rfl rfl ?_
    refine XS.aloadN X0.here hx rfl (hb hby d_jdk_42_method_3_1) rfl rfl ?_
    refine XS.iconst X0.here hx rfl (hb hby d_jdk_42_method_3_2) ?_
    refine XS.aloadN X0.here hx rfl (hb hby d_jdk_42_method_3_3) rfl rfl ?_
    refine X0.arraylength hx (by rw [e0]; exact Ar1.1) (State.isArrayOf_alike hZ.alike Ar1.2.1) (g := (mkF m 4 #[.val (.ref a1), .val (.ref a2)] [(.ref a2), (.int (0 : Int32)), (.ref a2), (.ref a1)])) rfl rfl (hb hby d_jdk_42_method_3_4) _ ?_
    rw [len_of S1 M1]
    refine XS.aconstNull X0.here hx rfl (hb hby d_jdk_42_method_3_5) ?_
    refine st2.trans ?_
    exact X2.returnOut hx Bd.returns (hb hby d_jdk_42_method_3_9) hr
  · show Q_rc91_init Z a1 a2 k3 i4 i5 i6 h0 n0 _ T2.heap _
    exact ⟨x2_x3_b1, x2_x3_k1, rfl, N2, K8, s4, q2_0, q2_1, q2_2, q2_3⟩
def Q_rc90_make (Z : State) (i1 : Int32) (i2 : Int32) (i3 : Int32) (h0 : Heap) (n0 : Nat) (v : Option Value) (h : Heap) (L : List Loc) : Prop := ∃ (b1 : Addr), ∃ (x36_x2_x3_b1 : Addr), ∃ (x36_x2_x3_k1 : ClassId), v = some (.ref b1) ∧ Fr n0 L ∧ Keep h0 h [] ∧ h0.size ≤ b1 ∧ h0.size ≤ x36_x2_x3_b1 ∧ Exa Z h b1 nString_0 ∧ Fld Z h b1 nString_0 "coder" "B" (.int (0 : Int32)) ∧ Fld Z h b1 nString_0 "value" "[B" (.ref x36_x2_x3_b1) ∧ Arv Z h x36_x2_x3_b1 x36_x2_x3_k1 .byte (3 : Int32) [(.int (nar .byte (i1.toInt8.toInt32))), (.int (nar .byte (i2.toInt8.toInt32))), (.int (nar .byte (i3.toInt8.toInt32)))] (.int (0 : Int32))
set_option maxRecDepth 65536 in
set_option maxHeartbeats 40000000 in
theorem rc90_make (l : Launch) (Z : State) (a0 : Array Value) (hw : ∀ d ∈ tables_1, d.before a0 Z = true) (ws : List Jvm.Cond) (cs : Int32) (hS : SB Z cs) (i1 : Int32) (i2 : Int32) (i3 : Int32) (h0 : Heap) (n0 : Nat) (O0 : Old Z n0 h0) (hy0 : nar .char i1 = i1) (hy1 : nar .char i2 = i2) (hy2 : nar .char i3 = i3) (hy3 : ¬ (255 : Int32) < i1) (hy4 : ¬ (255 : Int32) < i2) (hy5 : ¬ (255 : Int32) < i3) :
    Met l my_3 method_2_code 4 (some (.object nString_0)) ws ({ frames := 4, cells := 3, slots := 10, locals := 66 } : Room) #[(.int (3 : Int32)), (.int i1), (.int i2), (.int i3)] Z h0 (Q_rc90_make Z i1 i2 i3 h0 n0) := by
  refine MetFree.of_bodySF (plainFor_of_name pn_2) hisR ?_
  intro p e s m args below meth c s₁ Bd hml0 hP hK
  obtain ⟨rfl, hZ, hh⟩ := hP
  have hx := Bd.exec
  have hby := Bd.bytes
  have hml : c.maxLocals = 4 := hml0
  have hown : s.vm.findClass nUnfore_3 = some m.cls := findClass_of_methodNamed Bd.named
  have hnm := (name_of_methodNamed Bd.named Bd.method).1
  have X0 : Stand p l e ({ frames := 4, cells := 3, slots := 10, locals := 66 } : Room) s m #[(.int (3 : Int32)), (.int i1), (.int i2), (.int i3)] below meth c s₁ [] 0 0 := Stand.of_body Bd
  have e0 : s₁.heap = h0 := by rw [← hh, Bd.state]; rfl
  have N0 := Fr.nil n0
  obtain ⟨f₀, hf₀⟩ : ∃ f, f = entryFrame m #[(.int (3 : Int32)), (.int i1), (.int i2), (.int i3)] 4 := ⟨_, rfl⟩
  rw [← hf₀]
  have pre0 : Go p e below s₁ f₀ s₁ (mkF m 0 #[.val (.int (3 : Int32)), .val (.int i1), .val (.int i2), .val (.int i3)] []) := fun t k => castTop (hf₀.trans (ef_rc90_make m ((3 : Int32)) (i1) (i2) (i3))) k
  obtain ⟨T1, h1, X1, e1, E1, A1, D1, -, st1⟩ := newO X0 hx hZ hown (wq hw 5 rfl) (wq hw 6 rfl) (wq hw 7 rfl) e0 (g := (mkF m 59 #[.val (.int (3 : Int32)), .val (.int i1), .val (.int i2), .val (.int i3)] [])) rfl (hb hby d_method_2_59) (by decide) (by decide)
  obtain ⟨b1, gb1⟩ : ∃ z, z = h0.size := ⟨_, rfl⟩
  rw [← gb1] at A1 D1 st1
  have g2 : n0 ≤ b1 := Nat.le_trans (Nat.le_of_eq O0.1.symm) (Nat.le_trans O0.2.1 (Nat.le_of_eq gb1.symm))
  have s3 : h0.size ≤ b1 := Nat.le_trans (Keep.refl h0 []).1 (Nat.le_of_eq gb1.symm)
  have O4 : Old Z n0 h1 := Old.ext O0 E1
  have K5 : Keep h0 h1 [] := (Keep.refl h0 []).ext E1
  have f6 : Fld Z h1 b1 nString_0 "value" "[B" .null := D1 (Or.inr (wq hw 21 rfl)) (ty := (.array .byte)) (by decide)
  have f7 : Fld Z h1 b1 nString_0 "coder" "B" (.int (0 : Int32)) := D1 (Or.inr (wq hw 22 rfl)) (ty := .byte) (by decide)
  obtain ⟨T8, h8, k8, X8, e8, E8, A8, st8⟩ := newP X1 hx hZ (wq hw 8 rfl) e1 (g := (mkF m 64 #[.val (.int (3 : Int32)), .val (.int i1), .val (.int i2), .val (.int i3)] [(.int (3 : Int32)), (.ref b1), (.ref b1)])) rfl (hb hby d_method_2_64) rfl (by decide) (cap := 3) (by decide) (by decide) (by decide) (by decide)
  obtain ⟨b8, gb8⟩ : ∃ z, z = h1.size := ⟨_, rfl⟩
  rw [← gb8] at A8 st8
  have ne9 : b1 ≠ b8 := Nat.ne_of_lt (Nat.lt_of_lt_of_le A1.lt (Nat.le_of_eq gb8.symm))
  have g10 : n0 ≤ b8 := Nat.le_trans (Nat.le_of_eq O4.1.symm) (Nat.le_trans O4.2.1 (Nat.le_of_eq gb8.symm))
  have s11 : h0.size ≤ b8 := Nat.le_trans K5.1 (Nat.le_of_eq gb8.symm)
  have O12 : Old Z n0 h8 := Old.ext O4 E8
  have K13 : Keep h0 h8 [] := K5.ext E8
  have v14 : Arv Z h8 b8 k8 .char (3 : Int32) [(.int (0 : Int32)), (.int (0 : Int32)), (.int (0 : Int32))] (.int (0 : Int32)) := (Arv.new A8 (by decide)).pad (pad_rep [] (.int (0 : Int32)) 3)
  obtain ⟨c15, Ar15, q15, S15, M15, Hh15, G15⟩ := (id v14)
  have hin15 : ¬ ((0 : Int32) < 0 ∨ c15.slots.size ≤ ((0 : Int32)).toNatClampNeg) := inb_of S15 ⟨by decide, by decide⟩
  obtain ⟨T16, h16, X16, e16, W16, st16⟩ := stC X8 hx hZ e8 Ar15 (j := (0 : Int32)) hin15 (g := (mkF m 69 #[.val (.int (3 : Int32)), .val (.int i1), .val (.int i2), .val (.int i3)] [(.int i1), (.int (0 : Int32)), (.ref b8), (.ref b8), (.ref b1), (.ref b1)])) rfl rfl (hb hby d_method_2_69)
  have v17 : Arv Z h16 b8 k8 .char (3 : Int32) [(.int (nar .char i1)), (.int (0 : Int32)), (.int (0 : Int32))] (.int (0 : Int32)) := Arv.set Ar15 q15 S15 M15 Hh15 G15 (fits_nar_char _) W16 0 rfl (Nat.le_of_ble_eq_true rfl)
  have v18 : Arv Z h16 b8 k8 .char (3 : Int32) [(.int i1), (.int (0 : Int32)), (.int (0 : Int32))] (.int (0 : Int32)) := by rw [hy0] at v17; exact v17
  have N16 := Fr.snoc X16 N0 g10
  have O19 : Old Z n0 h16 := Old.wr O12 W16 g10
  have K20 : Keep h0 h16 [] := K13.wr W16 (Or.inr s11)
  obtain ⟨c21, Ar21, q21, S21, M21, Hh21, G21⟩ := (id v18)
  have hin21 : ¬ ((1 : Int32) < 0 ∨ c21.slots.size ≤ ((1 : Int32)).toNatClampNeg) := inb_of S21 ⟨by decide, by decide⟩
  obtain ⟨T22, h22, X22, e22, W22, st22⟩ := stC X16 hx hZ e16 Ar21 (j := (1 : Int32)) hin21 (g := (mkF m 73 #[.val (.int (3 : Int32)), .val (.int i1), .val (.int i2), .val (.int i3)] [(.int i2), (.int (1 : Int32)), (.ref b8), (.ref b8), (.ref b1), (.ref b1)])) rfl rfl (hb hby d_method_2_73)
  have v23 : Arv Z h22 b8 k8 .char (3 : Int32) [(.int i1), (.int (nar .char i2)), (.int (0 : Int32))] (.int (0 : Int32)) := Arv.set Ar21 q21 S21 M21 Hh21 G21 (fits_nar_char _) W22 1 rfl (Nat.le_of_ble_eq_true rfl)
  have v24 : Arv Z h22 b8 k8 .char (3 : Int32) [(.int i1), (.int i2), (.int (0 : Int32))] (.int (0 : Int32)) := by rw [hy1] at v23; exact v23
  have N22 := Fr.snoc X22 N16 g10
  have O25 : Old Z n0 h22 := Old.wr O19 W22 g10
  have K26 : Keep h0 h22 [] := K20.wr W22 (Or.inr s11)
  obtain ⟨c27, Ar27, q27, S27, M27, Hh27, G27⟩ := (id v24)
  have hin27 : ¬ ((2 : Int32) < 0 ∨ c27.slots.size ≤ ((2 : Int32)).toNatClampNeg) := inb_of S27 ⟨by decide, by decide⟩
  obtain ⟨T28, h28, X28, e28, W28, st28⟩ := stC X22 hx hZ e22 Ar27 (j := (2 : Int32)) hin27 (g := (mkF m 77 #[.val (.int (3 : Int32)), .val (.int i1), .val (.int i2), .val (.int i3)] [(.int i3), (.int (2 : Int32)), (.ref b8), (.ref b8), (.ref b1), (.ref b1)])) rfl rfl (hb hby d_method_2_77)
  have v29 : Arv Z h28 b8 k8 .char (3 : Int32) [(.int i1), (.int i2), (.int (nar .char i3))] (.int (0 : Int32)) := Arv.set Ar27 q27 S27 M27 Hh27 G27 (fits_nar_char _) W28 2 rfl (Nat.le_of_ble_eq_true rfl)
  have v30 : Arv Z h28 b8 k8 .char (3 : Int32) [(.int i1), (.int i2), (.int i3)] (.int (0 : Int32)) := by rw [hy2] at v29; exact v29
  have N28 := Fr.snoc X28 N22 g10
  have O31 : Old Z n0 h28 := Old.wr O25 W28 g10
  have K32 : Keep h0 h28 [] := K26.wr W28 (Or.inr s11)
  have t33 : Exa Z h28 b1 nString_0 := ((((A1.ext E8).wr W16).wr W22).wr W28)
  have t34 : Fld Z h28 b1 nString_0 "coder" "B" (.int (0 : Int32)) := ((((f7.ext E8).other W16 (Or.inl ne9)).other W22 (Or.inl ne9)).other W28 (Or.inl ne9))
  have t35 : Fld Z h28 b1 nString_0 "value" "[B" .null := ((((f6.ext E8).other W16 (Or.inl ne9)).other W22 (Or.inl ne9)).other W28 (Or.inl ne9))
  obtain ⟨_, _, ⟨T36, L36, k36, n36⟩, -, X36, ⟨Lc36, hQ36, l36, y36, z36⟩, st36⟩ := X28.specialBack hx (y := my_2) rfl hown (mvT hZ (wq hw 9 rfl)) (mvT hZ (wq hw 10 rfl)) (mvT hZ (wq hw 11 rfl)) (by decide) (backOf (W := 1) (rc91_init l Z a0 hw [] cs hS b1 b8 k8 i1 i2 i3 h28 n0 O31 g2 g10 t33 t34 t35 v30 hy3 hy4 hy5) hZ (wq hw 11 rfl) (wq hw 7 rfl) (by decide) (by decide)) (g := (mkF m 78 #[.val (.int (3 : Int32)), .val (.int i1), .val (.int i2), .val (.int i3)] [(.ref b8), (.ref b1), (.ref b1)])) rfl (by rw [hml]; rfl) (Steps.refl _) (a := b1) (argsL := [(.ref b8)]) (rest := [(.ref b1)]) (lenOf pd_2 rfl) rfl (by show 2 * 0 + _ ≤ _; exact Nat.le_of_eq rfl) (hb hby d_method_2_78) (fun _ _ => ⟨rfl, e28, (by decide : 2 + 1 ≤ _), (by decide : 7 + 3 ≤ _)⟩)
  dsimp only [Pt.U, Pt.locs, Pt.cells, Pt.slots] at X36 l36 y36 z36 st36 hQ36
  have X36 := own_to X36 l36 y36 z36
  obtain ⟨x36_x2_x3_b1, x36_x2_x3_k1, rfl, N36q, K36, sz36_x2_x3_b1, q36_0, q36_1, q36_2, q36_3⟩ := hQ36
  have N36 := Fr.app N28 N36q
  have g37 : n0 ≤ x36_x2_x3_b1 := Nat.le_trans (Nat.le_of_eq O31.1.symm) (Nat.le_trans O31.2.1 sz36_x2_x3_b1)
  have s38 : h0.size ≤ x36_x2_x3_b1 := Nat.le_trans K32.1 sz36_x2_x3_b1
  have ne39 : b1 ≠ x36_x2_x3_b1 := Nat.ne_of_lt (Nat.lt_of_lt_of_le t33.lt sz36_x2_x3_b1)
  have ne40 : b8 ≠ x36_x2_x3_b1 := Nat.ne_of_lt (Nat.lt_of_lt_of_le v30.lt sz36_x2_x3_b1)
  have O41 : Old Z n0 T36.heap := Old.keep O31 K36 (allS g2 all0)
  have K42 : Keep h0 T36.heap [] := K32.trans K36 (allS (Or.inr s3) all0)
  obtain ⟨fs, hr, hrun, hended, hW, hsame⟩ := X36.leave (v := (some (.ref b1))) (fun h => by rw [Bd.returns] at h; cases h)
  refine ⟨_, _, pre0 _ ?_, hrun, hended, _, _, rfl, ?_, ⟨_, rfl⟩, hW, hsame.mono (by decide) (by decide)⟩
  · refine XS.iloadN X0.here hx rfl (hb hby d_method_2_0) rfl ?_
    refine XS.ifYes X0.here hx rfl (pc0 := 1) (pc' := 15) rfl (hb hby d_method_2_1) rfl ((if0 _ _).trans (feq (by decide : ¬ ((3 : Int32) = (0 : Int32)))).2) (by decide) (by decide) ?_
    refine XS.iloadN X0.here hx rfl (hb hby d_method_2_15) rfl ?_
    refine XS.iconst X0.here hx rfl (hb hby d_method_2_16) ?_
    refine XS.icmpYes X0.here hx rfl (pc0 := 17) (pc' := 35) rfl (hb hby d_method_2_17) rfl (feq (by decide : ¬ ((3 : Int32) = (1 : Int32)))).2 (by decide) (by decide) ?_
    refine XS.iloadN X0.here hx rfl (hb hby d_method_2_35) rfl ?_
    refine XS.iconst X0.here hx rfl (hb hby d_method_2_36) ?_
    refine XS.icmpYes X0.here hx rfl (pc0 := 37) (pc' := 59) rfl (hb hby d_method_2_37) rfl (feq (by decide : ¬ ((3 : Int32) = (2 : Int32)))).2 (by decide) (by decide) ?_
    refine st1 _ ?_
    refine XS.dup X1.here hx rfl (hb hby d_method_2_62) rfl rfl ?_
    refine XS.iconst X1.here hx rfl (hb hby d_method_2_63) ?_
    refine st8 _ ?_
    refine XS.dup X8.here hx rfl (hb hby d_method_2_66) rfl rfl ?_
    refine XS.iconst X8.here hx rfl (hb hby d_method_2_67) ?_
    refine XS.iloadN X8.here hx rfl (hb hby d_method_2_68) rfl ?_
    refine st16 _ ?_
    refine XS.dup X16.here hx rfl (hb hby d_method_2_70) rfl rfl ?_
    refine XS.iconst X16.here hx rfl (hb hby d_method_2_71) ?_
    refine XS.iloadN X16.here hx rfl (hb hby d_method_2_72) rfl ?_
    refine st22 _ ?_
    refine XS.dup X22.here hx rfl (hb hby d_method_2_74) rfl rfl ?_
    refine XS.iconst X22.here hx rfl (hb hby d_method_2_75) ?_
    refine XS.iloadN X22.here hx rfl (hb hby d_method_2_76) rfl ?_
    refine st28 _ ?_
    refine st36.trans ?_
    exact retOut X36 hx Bd.returns rfl (Or.inr (Or.inr (Or.inr (Or.inr ⟨rfl, rfl, rfl⟩)))) (hb hby d_method_2_81) hr
  · show Q_rc90_make Z i1 i2 i3 h0 n0 _ T36.heap _
    exact ⟨b1, x36_x2_x3_b1, x36_x2_x3_k1, rfl, N36, K42, s3, s38, q36_0, q36_1, q36_2, q36_3⟩
def Q_rc97_isEmpty (Z : State) (a1 : Addr) (a2 : Addr) (k3 : ClassId) (i4 : Int32) (i5 : Int32) (i6 : Int32) (h0 : Heap) (n0 : Nat) (v : Option Value) (h : Heap) (L : List Loc) : Prop := v = some (.int (0 : Int32)) ∧ Fr n0 L ∧ h = h0
set_option maxRecDepth 65536 in
set_option maxHeartbeats 40000000 in
theorem rc97_isEmpty (l : Launch) (Z : State) (a0 : Array Value) (hw : ∀ d ∈ tables_1, d.before a0 Z = true) (ws : List Jvm.Cond) (cs : Int32) (hS : SB Z cs) (a1 : Addr) (a2 : Addr) (k3 : ClassId) (i4 : Int32) (i5 : Int32) (i6 : Int32) (h0 : Heap) (n0 : Nat) (O0 : Old Z n0 h0) (g_a1 : n0 ≤ a1) (g_a2 : n0 ≤ a2) (F_a1_value : Fld Z h0 a1 nString_0 "value" "[B" (.ref a2)) (V_a2 : Arv Z h0 a2 k3 .byte (3 : Int32) [(.int i4), (.int i5), (.int i6)] (.int (0 : Int32))) :
    Met l my_4 jdk_42_method_55_code 1 (some .boolean) ws ({ frames := 0, cells := 0, slots := 0, locals := 0 } : Room) #[(.ref a1)] Z h0 (Q_rc97_isEmpty Z a1 a2 k3 i4 i5 i6 h0 n0) := by
  refine MetFree.of_bodySF (plainFor_of_name pn_1) hisR ?_
  intro p e s m args below meth c s₁ Bd hml0 hP hK
  obtain ⟨rfl, hZ, hh⟩ := hP
  have hx := Bd.exec
  have hby := Bd.bytes
  have hml : c.maxLocals = 1 := hml0
  have hown : s.vm.findClass nString_0 = some m.cls := findClass_of_methodNamed Bd.named
  have hnm := (name_of_methodNamed Bd.named Bd.method).1
  have X0 : Stand p l e ({ frames := 0, cells := 0, slots := 0, locals := 0 } : Room) s m #[(.ref a1)] below meth c s₁ [] 0 0 := Stand.of_body Bd
  have e0 : s₁.heap = h0 := by rw [← hh, Bd.state]; rfl
  have N0 := Fr.nil n0
  obtain ⟨f₀, hf₀⟩ : ∃ f, f = entryFrame m #[(.ref a1)] 1 := ⟨_, rfl⟩
  rw [← hf₀]
  have pre0 : Go p e below s₁ f₀ s₁ (mkF m 0 #[.val (.ref a1)] []) := fun t k => castTop (hf₀.trans (ef_rc97_isEmpty m (a1))) k
  obtain ⟨T1, X1, e1, st1⟩ := getF X0 hx hZ hown (host := "") (Or.inl (wq hw 25 rfl)) Via.refl e0 F_a1_value (g := (mkF m 1 #[.val (.ref a1)] [(.ref a1)])) rfl rfl (hb hby d_jdk_42_method_55_1)
  obtain ⟨c2, Ar2, q2, S2, M2, Hh2, G2⟩ := (id V_a2)
  obtain ⟨fs, hr, hrun, hended, hW, hsame⟩ := X1.leave (v := (some (.int (0 : Int32)))) (fun h => by rw [Bd.returns] at h; cases h)
  refine ⟨_, _, pre0 _ ?_, hrun, hended, _, _, rfl, ?_, ⟨_, rfl⟩, hW, hsame.mono (by decide) (by decide)⟩
  · refine XS.aloadN X0.here hx rfl (hb hby d_jdk_42_method_55_0) rfl rfl ?_
    refine st1 _ ?_
    refine X1.arraylength hx (by rw [e1]; exact Ar2.1) (State.isArrayOf_alike hZ.alike Ar2.2.1) (g := (mkF m 4 #[.val (.ref a1)] [(.ref a2)])) rfl rfl (hb hby d_jdk_42_method_55_4) _ ?_
    rw [len_of S2 M2]
    refine XS.ifYes X1.here hx rfl (pc0 := 5) (pc' := 12) rfl (hb hby d_jdk_42_method_55_5) rfl ((if0 _ _).trans (feq (by decide : ¬ ((3 : Int32) = (0 : Int32)))).2) (by decide) (by decide) ?_
    refine XS.iconst X1.here hx rfl (hb hby d_jdk_42_method_55_12) ?_
    exact retN X1 hx (t := .boolean) Bd.returns (by simp) (hb hby d_jdk_42_method_55_13) hr
  · show Q_rc97_isEmpty Z a1 a2 k3 i4 i5 i6 h0 n0 _ T1.heap _
    rw [e1]
    exact ⟨rfl, N0, rfl⟩
def Q_rc99_equals (Z : State) (a1 : Addr) (a2 : Addr) (k3 : ClassId) (i4 : Int32) (i5 : Int32) (i6 : Int32) (k7 : ClassId) (h0 : Heap) (n0 : Nat) (v : Option Value) (h : Heap) (L : List Loc) : Prop := v = some (.int (0 : Int32)) ∧ Fr n0 L ∧ h = h0
set_option maxRecDepth 65536 in
set_option maxHeartbeats 40000000 in
theorem rc99_equals (l : Launch) (Z : State) (a0 : Array Value) (hw : ∀ d ∈ tables_1, d.before a0 Z = true) (ws : List Jvm.Cond) (cs : Int32) (hS : SB Z cs) (a1 : Addr) (a2 : Addr) (k3 : ClassId) (i4 : Int32) (i5 : Int32) (i6 : Int32) (k7 : ClassId) (h0 : Heap) (n0 : Nat) (O0 : Old Z n0 h0) (g_a1 : n0 ≤ a1) (V_a1 : Arv Z h0 a1 k3 .byte (3 : Int32) [(.int i4), (.int i5), (.int i6)] (.int (0 : Int32))) (V_a2 : Arv Z h0 a2 k7 .byte (1 : Int32) [(.int (48 : Int32))] (.int (0 : Int32))) :
    Met l my_14 jdk_43_method_13_code 3 (some .boolean) ws ({ frames := 0, cells := 0, slots := 0, locals := 0 } : Room) #[(.ref a1), (.ref a2)] Z h0 (Q_rc99_equals Z a1 a2 k3 i4 i5 i6 k7 h0 n0) := by
  refine MetFree.of_bodySF (plainFor_of_name pn_4) hisR ?_
  intro p e s m args below meth c s₁ Bd hml0 hP hK
  obtain ⟨rfl, hZ, hh⟩ := hP
  have hx := Bd.exec
  have hby := Bd.bytes
  have hml : c.maxLocals = 3 := hml0
  have hown : s.vm.findClass "java/lang/StringLatin1" = some m.cls := findClass_of_methodNamed Bd.named
  have hnm := (name_of_methodNamed Bd.named Bd.method).1
  have X0 : Stand p l e ({ frames := 0, cells := 0, slots := 0, locals := 0 } : Room) s m #[(.ref a1), (.ref a2)] below meth c s₁ [] 0 0 := Stand.of_body Bd
  have e0 : s₁.heap = h0 := by rw [← hh, Bd.state]; rfl
  have N0 := Fr.nil n0
  obtain ⟨f₀, hf₀⟩ : ∃ f, f = entryFrame m #[(.ref a1), (.ref a2)] 3 := ⟨_, rfl⟩
  rw [← hf₀]
  have pre0 : Go p e below s₁ f₀ s₁ (mkF m 0 #[.val (.ref a1), .val (.ref a2), .unset] []) := fun t k => castTop (hf₀.trans (ef_rc99_equals m (a1) (a2))) k
  obtain ⟨c1, Ar1, q1, S1, M1, Hh1, G1⟩ := (id V_a1)
  obtain ⟨c2, Ar2, q2, S2, M2, Hh2, G2⟩ := (id V_a2)
  obtain ⟨fs, hr, hrun, hended, hW, hsame⟩ := X0.leave (v := (some (.int (0 : Int32)))) (fun h => by rw [Bd.returns] at h; cases h)
  refine ⟨_, _, pre0 _ ?_, hrun, hended, _, _, rfl, ?_, ⟨_, rfl⟩, hW, hsame.mono (by decide) (by decide)⟩
  · refine XS.aloadN X0.here hx rfl (hb hby d_jdk_43_method_13_0) rfl rfl ?_
    refine X0.arraylength hx (by rw [e0]; exact Ar1.1) (State.isArrayOf_alike hZ.alike Ar1.2.1) (g := (mkF m 1 #[.val (.ref a1), .val (.ref a2), .unset] [(.ref a1)])) rfl rfl (hb hby d_jdk_43_method_13_1) _ ?_
    rw [len_of S1 M1]
    refine XS.aloadN X0.here hx rfl (hb hby d_jdk_43_method_13_2) rfl rfl ?_
    refine X0.arraylength hx (by rw [e0]; exact Ar2.1) (State.isArrayOf_alike hZ.alike Ar2.2.1) (g := (mkF m 3 #[.val (.ref a1), .val (.ref a2), .unset] [(.ref a2), (.int (3 : Int32))])) rfl rfl (hb hby d_jdk_43_method_13_3) _ ?_
    rw [len_of S2 M2]
    refine XS.icmpYes X0.here hx rfl (pc0 := 4) (pc' := 34) rfl (hb hby d_jdk_43_method_13_4) rfl (feq (by decide : ¬ ((3 : Int32) = (1 : Int32)))).2 (by decide) (by decide) ?_
    refine XS.iconst X0.here hx rfl (hb hby d_jdk_43_method_13_34) ?_
    exact retN X0 hx (t := .boolean) Bd.returns (by simp) (hb hby d_jdk_43_method_13_35) hr
  · show Q_rc99_equals Z a1 a2 k3 i4 i5 i6 k7 h0 n0 _ s₁.heap _
    rw [e0]
    exact ⟨rfl, N0, rfl⟩
def Q_rc98_equals (Z : State) (a1 : Addr) (a2 : Addr) (a3 : Addr) (a4 : Addr) (k5 : ClassId) (i6 : Int32) (i7 : Int32) (i8 : Int32) (k9 : ClassId) (h0 : Heap) (n0 : Nat) (v : Option Value) (h : Heap) (L : List Loc) : Prop := v = some (.int (0 : Int32)) ∧ Fr n0 L ∧ h = h0
set_option maxRecDepth 65536 in
set_option maxHeartbeats 40000000 in
theorem rc98_equals (l : Launch) (Z : State) (a0 : Array Value) (hw : ∀ d ∈ tables_1, d.before a0 Z = true) (ws : List Jvm.Cond) (cs : Int32) (hS : SB Z cs) (a1 : Addr) (a2 : Addr) (a3 : Addr) (a4 : Addr) (k5 : ClassId) (i6 : Int32) (i7 : Int32) (i8 : Int32) (k9 : ClassId) (h0 : Heap) (n0 : Nat) (O0 : Old Z n0 h0) (g_a1 : n0 ≤ a1) (g_a3 : n0 ≤ a3) (F_a1_coder : Fld Z h0 a1 nString_0 "coder" "B" (.int (0 : Int32))) (F_a1_value : Fld Z h0 a1 nString_0 "value" "[B" (.ref a3)) (E_a2 : Exa Z h0 a2 nString_0) (F_a2_coder : Fld Z h0 a2 nString_0 "coder" "B" (.int (0 : Int32))) (F_a2_value : Fld Z h0 a2 nString_0 "value" "[B" (.ref a4)) (V_a3 : Arv Z h0 a3 k5 .byte (3 : Int32) [(.int i6), (.int i7), (.int i8)] (.int (0 : Int32))) (V_a4 : Arv Z h0 a4 k9 .byte (1 : Int32) [(.int (48 : Int32))] (.int (0 : Int32))) (hy0 : ¬ a1 = a2) :
    Met l my_13 jdk_42_method_66_code 3 (some .boolean) ws ({ frames := 1, cells := 0, slots := 0, locals := 14 } : Room) #[(.ref a1), (.ref a2)] Z h0 (Q_rc98_equals Z a1 a2 a3 a4 k5 i6 i7 i8 k9 h0 n0) := by
  refine MetFree.of_bodySF (plainFor_of_name pn_1) hisR ?_
  intro p e s m args below meth c s₁ Bd hml0 hP hK
  obtain ⟨rfl, hZ, hh⟩ := hP
  have hx := Bd.exec
  have hby := Bd.bytes
  have hml : c.maxLocals = 3 := hml0
  have hown : s.vm.findClass nString_0 = some m.cls := findClass_of_methodNamed Bd.named
  have hnm := (name_of_methodNamed Bd.named Bd.method).1
  have X0 : Stand p l e ({ frames := 1, cells := 0, slots := 0, locals := 14 } : Room) s m #[(.ref a1), (.ref a2)] below meth c s₁ [] 0 0 := Stand.of_body Bd
  have e0 : s₁.heap = h0 := by rw [← hh, Bd.state]; rfl
  have N0 := Fr.nil n0
  obtain ⟨f₀, hf₀⟩ : ∃ f, f = entryFrame m #[(.ref a1), (.ref a2)] 3 := ⟨_, rfl⟩
  rw [← hf₀]
  have pre0 : Go p e below s₁ f₀ s₁ (mkF m 0 #[.val (.ref a1), .val (.ref a2), .unset] []) := fun t k => castTop (hf₀.trans (ef_rc98_equals m (a1) (a2))) k
  obtain ⟨T1, X1, e1, st1⟩ := instY X0 hx hZ hown (wq hw 53 rfl) e0 (Ins.self E_a2) (g := (mkF m 8 #[.val (.ref a1), .val (.ref a2), .unset] [(.ref a2)])) rfl rfl (hb hby d_jdk_42_method_66_8)
  obtain ⟨T2, X2, e2, st2⟩ := castY X1 hx hZ hown (wq hw 53 rfl) e1 (Ins.self E_a2) (g := (mkF m 15 #[.val (.ref a1), .val (.ref a2), .unset] [(.ref a2)])) rfl rfl (hb hby d_jdk_42_method_66_15)
  obtain ⟨T3, X3, e3, st3⟩ := getS2 X2 hx hZ hown (host := "") (Or.inl (wq hw 36 rfl)) Via.refl e2 (hS.1.ext O0.2) (g := (mkF m 19 #[.val (.ref a1), .val (.ref a2), .val (.ref a2)] [])) rfl (hb hby d_jdk_42_method_66_19)
  obtain ⟨T4, X4, e4, st4⟩ := getF X3 hx hZ hown (host := "") (Or.inl (wq hw 26 rfl)) Via.refl e3 F_a1_coder (g := (mkF m 26 #[.val (.ref a1), .val (.ref a2), .val (.ref a2)] [(.ref a1)])) rfl rfl (hb hby d_jdk_42_method_66_26)
  obtain ⟨T5, X5, e5, st5⟩ := getF X4 hx hZ hown (host := "") (Or.inl (wq hw 26 rfl)) Via.refl e4 F_a2_coder (g := (mkF m 30 #[.val (.ref a1), .val (.ref a2), .val (.ref a2)] [(.ref a2), (.int (0 : Int32))])) rfl rfl (hb hby d_jdk_42_method_66_30)
  obtain ⟨T6, X6, e6, st6⟩ := getF X5 hx hZ hown (host := "") (Or.inl (wq hw 25 rfl)) Via.refl e5 F_a1_value (g := (mkF m 37 #[.val (.ref a1), .val (.ref a2), .val (.ref a2)] [(.ref a1)])) rfl rfl (hb hby d_jdk_42_method_66_37)
  obtain ⟨T7, X7, e7, st7⟩ := getF X6 hx hZ hown (host := "") (Or.inl (wq hw 25 rfl)) Via.refl e6 F_a2_value (g := (mkF m 41 #[.val (.ref a1), .val (.ref a2), .val (.ref a2)] [(.ref a2), (.ref a3)])) rfl rfl (hb hby d_jdk_42_method_66_41)
  obtain ⟨_, _, ⟨T8, L8, k8, n8⟩, -, X8, ⟨Lc8, hQ8, l8, y8, z8⟩, st8⟩ := Jvm.LawKit.callS X7 hx (y := my_14) hown (mvT hZ (wq hw 54 rfl)) (mvT hZ (wq hw 55 rfl)) (mvT hZ (wq hw 56 rfl)) (mvT hZ (wq hw 57 rfl)) (by decide) (backOf (W := 0) (rc99_equals l Z a0 hw [] cs hS a3 a4 k5 i6 i7 i8 k9 h0 n0 O0 g_a3 V_a3 V_a4) hZ (wq hw 57 rfl) (wq hw 56 rfl) (by decide) (by decide)) (g := (mkF m 44 #[.val (.ref a1), .val (.ref a2), .val (.ref a2)] [(.ref a4), (.ref a3)])) rfl (by rw [hml]; rfl) (argsL := [(.ref a3), (.ref a4)]) (rest := []) (lenOf pd_13 rfl) rfl (by show 2 * 0 + _ ≤ _; exact Nat.le_of_eq rfl) (hb hby d_jdk_42_method_66_44) (fun _ _ => ⟨rfl, e7, (by decide : 0 + 0 ≤ _), (by decide : 0 + 0 ≤ _)⟩)
  dsimp only [Pt.U, Pt.locs, Pt.cells, Pt.slots] at X8 l8 y8 z8 st8 hQ8
  have X8 := own_to X8 l8 y8 z8
  obtain ⟨rfl, N8q, e8⟩ := hQ8
  have N8 := Fr.app N0 N8q
  obtain ⟨fs, hr, hrun, hended, hW, hsame⟩ := X8.leave (v := (some (.int (0 : Int32)))) (fun h => by rw [Bd.returns] at h; cases h)
  refine ⟨_, _, pre0 _ ?_, hrun, hended, _, _, rfl, ?_, ⟨_, rfl⟩, hW, hsame.mono (by decide) (by decide)⟩
  · refine XS.aloadN X0.here hx rfl (hb hby d_jdk_42_method_66_0) rfl rfl ?_
    refine XS.aloadN X0.here hx rfl (hb hby d_jdk_42_method_66_1) rfl rfl ?_
    refine Jvm.RoadKit.acmp (g := (mkF m 2 #[.val (.ref a1), .val (.ref a2), .unset] [(.ref a2), (.ref a1)])) X0 hx rfl rfl rfl (pc0 := 2) (pc' := 7) (same := false) rfl (hb hby d_jdk_42_method_66_2) rfl (decide_eq_false fun q => hy0 (Value.ref.inj q)) (by decide) (by decide) ?_
    refine XS.aloadN X0.here hx rfl (hb hby d_jdk_42_method_66_7) rfl rfl ?_
    refine st1 _ ?_
    refine XS.ifNo X1.here hx rfl (hb hby d_jdk_42_method_66_11) rfl ((if0 _ _).trans (feq (by decide : ¬ ((1 : Int32) = (0 : Int32)))).1) ?_
    refine XS.aloadN X1.here hx rfl (hb hby d_jdk_42_method_66_14) rfl rfl ?_
    refine st2 _ ?_
    refine XS.astoreN X2.here hx rfl (hb hby d_jdk_42_method_66_18) rfl rfl (l' := #[.val (.ref a1), .val (.ref a2), .val (.ref a2)]) rfl ?_
    refine st3 _ ?_
    refine XS.ifNo X3.here hx rfl (hb hby d_jdk_42_method_66_22) rfl ((if0 _ _).trans (feq hS.2.1).1) ?_
    refine XS.aloadN X3.here hx rfl (hb hby d_jdk_42_method_66_25) rfl rfl ?_
    refine st4 _ ?_
    refine XS.aloadN X4.here hx rfl (hb hby d_jdk_42_method_66_29) rfl rfl ?_
    refine st5 _ ?_
    refine XS.icmpNo X5.here hx rfl (hb hby d_jdk_42_method_66_33) rfl (teq (by decide : (0 : Int32) = (0 : Int32))).2 ?_
    refine XS.aloadN X5.here hx rfl (hb hby d_jdk_42_method_66_36) rfl rfl ?_
    refine st6 _ ?_
    refine XS.aloadN X6.here hx rfl (hb hby d_jdk_42_method_66_40) rfl rfl ?_
    refine st7 _ ?_
    refine st8 _ ?_
    refine XS.ifYes X8.here hx rfl (pc0 := 47) (pc' := 54) rfl (hb hby d_jdk_42_method_66_47) rfl ((if0 _ _).trans (teq (by decide : (0 : Int32) = (0 : Int32))).1) (by decide) (by decide) ?_
    refine XS.iconst X8.here hx rfl (hb hby d_jdk_42_method_66_54) ?_
    exact retN X8 hx (t := .boolean) Bd.returns (by simp) (hb hby d_jdk_42_method_66_55) hr
  · show Q_rc98_equals Z a1 a2 a3 a4 k5 i6 i7 i8 k9 h0 n0 _ T8.heap _
    rw [e8]
    exact ⟨rfl, N8, rfl⟩
def Q_rc96_traceAsked (Z : State) (a1 : Addr) (a2 : Addr) (k3 : ClassId) (i4 : Int32) (i5 : Int32) (i6 : Int32) (h0 : Heap) (n0 : Nat) (v : Option Value) (h : Heap) (L : List Loc) : Prop := v = some (.int (1 : Int32)) ∧ Fr n0 L ∧ Keep h0 h []
set_option maxRecDepth 65536 in
set_option maxHeartbeats 40000000 in
theorem rc96_traceAsked (l : Launch) (Z : State) (a0 : Array Value) (hw : ∀ d ∈ tables_1, d.before a0 Z = true) (ws : List Jvm.Cond) (cs : Int32) (hS : SB Z cs) (a1 : Addr) (a2 : Addr) (k3 : ClassId) (i4 : Int32) (i5 : Int32) (i6 : Int32) (h0 : Heap) (n0 : Nat) (O0 : Old Z n0 h0) (g_a1 : n0 ≤ a1) (g_a2 : n0 ≤ a2) (E_a1 : Exa Z h0 a1 nString_0) (F_a1_coder : Fld Z h0 a1 nString_0 "coder" "B" (.int (0 : Int32))) (F_a1_value : Fld Z h0 a1 nString_0 "value" "[B" (.ref a2)) (V_a2 : Arv Z h0 a2 k3 .byte (3 : Int32) [(.int i4), (.int i5), (.int i6)] (.int (0 : Int32))) :
    MetH l my_0 prog_17_method_2_code 1 (some .boolean) ws ({ frames := 2, cells := 2, slots := 8, locals := 28 } : Room) #[(.ref a1)] Z h0 [a1] (Q_rc96_traceAsked Z a1 a2 k3 i4 i5 i6 h0 n0) := by
  refine MetFree.of_bodySF (plainFor_of_name pn_0) hisR ?_
  intro p e s m args below meth c s₁ Bd hml0 hP hK
  obtain ⟨rfl, hZ, hh, hCH⟩ := hP
  have hx := Bd.exec
  have hby := Bd.bytes
  have hml : c.maxLocals = 1 := hml0
  have hown : s.vm.findClass nUnfore_2 = some m.cls := findClass_of_methodNamed Bd.named
  have hnm := (name_of_methodNamed Bd.named Bd.method).1
  have X0 : Stand p l e ({ frames := 2, cells := 2, slots := 8, locals := 28 } : Room) (s.setVm s.vm) m #[(.ref a1)] below meth c s₁ [] 0 0 := Stand.of_body Bd
  have e0 : s₁.heap = h0 := by rw [← hh, Bd.state]; rfl
  have N0 := Fr.nil n0
  obtain ⟨f₀, hf₀⟩ : ∃ f, f = entryFrame m #[(.ref a1)] 1 := ⟨_, rfl⟩
  rw [← hf₀]
  have pre0 : Go p e below s₁ f₀ s₁ (mkF m 0 #[.val (.ref a1)] []) := fun t k => castTop (hf₀.trans (ef_rc96_traceAsked m (a1))) k
  have hZ0 : Z.Warmed39 (s.setVm s.vm).vm := hZ
  have hown0 : (s.setVm s.vm).vm.findClass nUnfore_2 = some m.cls := hown
  have hS0 : s.Since s.vm s.heap.size := (State.WarmedH.refl s).since _
  have hk0 : s.heap.size ≤ h0.size := by rw [hh]; exact Nat.le_refl _
  obtain ⟨cq1, kq1, q1a, q1b, q1c⟩ := isOf hZ0 e0 (E_a1)
  obtain ⟨_, _, ⟨T1, L1, k1, n1⟩, -, X1, ⟨Lc1, hQ1, l1, y1, z1⟩, st1⟩ := X0.virtualBack hx (y := my_4) (z := my_4) hown0 (mvT hZ0 (wq hw 31 rfl)) (mvT hZ0 (wq hw 32 rfl)) (notFace_of_selects (args := #[]) (mvT hZ0 (wq hw 34 rfl))) (mvT hZ0 (wq hw 34 rfl)) (mvT hZ0 (wq hw 33 rfl)) (by decide) (backOf (W := 0) (rc97_isEmpty l Z a0 hw [] cs hS a1 a2 k3 i4 i5 i6 h0 n0 O0 g_a1 g_a2 F_a1_value V_a2) hZ0 (wq hw 35 rfl) (wq hw 7 rfl) (by decide) (by decide)) q1a q1c (g := (mkF m 5 #[.val (.ref a1)] [(.ref a1)])) rfl (by rw [hml]; rfl) (Steps.refl _) (argsL := []) (rest := []) (lenOf pd_4 rfl) rfl (by show 2 * 0 + _ ≤ _; exact Nat.le_of_eq rfl) (hb hby d_prog_17_method_2_5) (fun _ _ => ⟨rfl, e0, (by decide : 0 + 0 ≤ _), (by decide : 0 + 0 ≤ _)⟩)
  dsimp only [Pt.U, Pt.locs, Pt.cells, Pt.slots] at X1 l1 y1 z1 st1 hQ1
  have X1 := own_to X1 l1 y1 z1
  obtain ⟨rfl, N1q, e1⟩ := hQ1
  have N1 := Fr.app N0 N1q
  obtain ⟨sa2, T2, h2, k2, sb2, kc2, X2, e2, E2, hS2, hk2, hZ2, hown2, A2, Fc2, Fv2, Va2, la2, lb2, Cr2, Lt2, hne2, st2⟩ := ldcCH X1 hx hZ0 hown0 (wq hw 47 rfl) (own_wS hw) e1 hS0 hk0 (own_EL hw) (List.mem_of_getElem? (i := 0) rfl) hCH.1 (vs := [(.int (48 : Int32))]) (z := (1 : Int32)) ⟨by decide, rfl⟩ (by decide) rfl (g := (mkF m 12 #[.val (.ref a1)] [(.ref a1)])) rfl (hb hby d_prog_17_method_2_12) (n := 4) (by decide) (by decide) (by decide) (by decide)
  have O3 : Old Z n0 h2 := Old.ext O0 E2
  have K4 : Keep h0 h2 [] := (Keep.refl h0 []).ext E2
  have hk5 := Nat.le_trans hk0 E2.1
  have nn6 := hne2 a1 (Cr2.safe (hCH.2 a1 (List.mem_of_getElem? (i := 0) rfl)).1 (hCH.2 a1 (List.mem_of_getElem? (i := 0) rfl)).2)
  have t7 : Exa Z h2 a1 nString_0 := (E_a1.ext E2)
  have t8 : Fld Z h2 a1 nString_0 "coder" "B" (.int (0 : Int32)) := (F_a1_coder.ext E2)
  have t9 : Fld Z h2 a1 nString_0 "value" "[B" (.ref a2) := (F_a1_value.ext E2)
  have t10 : Arv Z h2 a2 k3 .byte (3 : Int32) [(.int i4), (.int i5), (.int i6)] (.int (0 : Int32)) := (V_a2.ext E2)
  obtain ⟨cq11, kq11, q11a, q11b, q11c⟩ := isOf hZ2 e2 (t7)
  obtain ⟨_, _, ⟨T11, L11, k11, n11⟩, -, X11, ⟨Lc11, hQ11, l11, y11, z11⟩, st11⟩ := X2.virtualBack hx (y := my_13) (z := my_13) hown2 (mvT hZ2 (wq hw 48 rfl)) (mvT hZ2 (wq hw 49 rfl)) (notFace_of_selects (args := #[]) (mvT hZ2 (wq hw 51 rfl))) (mvT hZ2 (wq hw 51 rfl)) (mvT hZ2 (wq hw 50 rfl)) (by decide) (backOf (W := 0) (rc98_equals l Z a0 hw [] cs hS a1 sa2 a2 sb2 k3 i4 i5 i6 kc2 h2 n0 O3 g_a1 g_a2 t8 t9 A2 Fc2 Fv2 t10 Va2 nn6.1) hZ2 (wq hw 52 rfl) (wq hw 7 rfl) (by decide) (by decide)) q11a q11c (g := (mkF m 14 #[.val (.ref a1)] [(.ref sa2), (.ref a1)])) rfl (by rw [hml]; rfl) (Steps.refl _) (argsL := [(.ref sa2)]) (rest := []) (lenOf pd_12 rfl) rfl (by show 2 * 0 + _ ≤ _; exact Nat.le_of_eq rfl) (hb hby d_prog_17_method_2_14) (fun _ _ => ⟨rfl, e2, (by decide : 2 + 0 ≤ _), (by decide : 8 + 0 ≤ _)⟩)
  dsimp only [Pt.U, Pt.locs, Pt.cells, Pt.slots] at X11 l11 y11 z11 st11 hQ11
  have X11 := own_to X11 l11 y11 z11
  obtain ⟨rfl, N11q, e11⟩ := hQ11
  have N11 := Fr.app N1 N11q
  obtain ⟨fs, hr, hrun, hended, hEW⟩ := Jvm.Stand.leaveW X11 hS2 (by rw [e11]; exact hk2) (v := (some (.int (1 : Int32)))) (fun h => by rw [Bd.returns] at h; cases h)
  refine ⟨_, _, pre0 _ ?_, hrun, hended, _, _, rfl, ?_, ⟨_, rfl⟩, hEW.2.1, hEW.2.2.1, hEW.2.2.2.mono (by decide) (by decide)⟩
  · refine XS.aloadN X0.here hx rfl (hb hby d_prog_17_method_2_0) rfl rfl ?_
    refine XS.ifnullNo X0.here hx rfl (hb hby d_prog_17_method_2_1) rfl ?_
    refine XS.aloadN X0.here hx rfl (hb hby d_prog_17_method_2_4) rfl rfl ?_
    refine st1.trans ?_
    refine XS.ifNo X1.here hx rfl (hb hby d_prog_17_method_2_8) rfl ((if0 _ _).trans (teq (by decide : (0 : Int32) = (0 : Int32))).2) ?_
    refine XS.aloadN X1.here hx rfl (hb hby d_prog_17_method_2_11) rfl rfl ?_
    refine st2 _ ?_
    refine st11.trans ?_
    refine XS.ifNo X11.here hx rfl (hb hby d_prog_17_method_2_17) rfl ((if0 _ _).trans (teq (by decide : (0 : Int32) = (0 : Int32))).2) ?_
    refine XS.iconst X11.here hx rfl (hb hby d_prog_17_method_2_20) ?_
    refine XS.goto X11.here hx rfl (pc0 := 21) (pc' := 25) rfl (hb hby d_prog_17_method_2_21) (by decide) (by decide) ?_
    exact retN X11 hx (t := .boolean) Bd.returns (by simp) (hb hby d_prog_17_method_2_25) hr
  · show Q_rc96_traceAsked Z a1 a2 k3 i4 i5 i6 h0 n0 _ T11.heap _
    rw [e11]
    exact ⟨rfl, N11, K4⟩
set_option maxRecDepth 65536 in
set_option maxHeartbeats 40000000 in
theorem rm0 (l : Launch) (Z : State) (a0 : Array Value) (hw : ∀ d ∈ tables_1, d.before a0 Z = true) (ws : List Jvm.Cond) (cs : Int32) (hS : SB Z cs) (p0 p1 p2 p3 : Int32) (h0 : Heap) (n0 : Nat) (O0 : Old Z n0 h0) :
    MetH l x code maxLocals ret ws room_1 #[(.int p0), (.int p1), (.int p2), (.int p3)] Z h0 [] (Q0 n0) := by
  refine MetFree.of_bodySF (plainFor_of_name pn_2) hisR ?_
  intro p e s m args below meth c s₁ Bd hml0 hP hK
  obtain ⟨rfl, hZ, hh, hCH⟩ := hP
  have hx := Bd.exec
  have hby := Bd.bytes
  have hml : c.maxLocals = 12 := hml0
  have hown : s.vm.findClass nUnfore_3 = some m.cls := findClass_of_methodNamed Bd.named
  have hnm := (name_of_methodNamed Bd.named Bd.method).1
  have X0 : Stand p l e room_1 (s.setVm s.vm) m #[(.int p0), (.int p1), (.int p2), (.int p3)] below meth c s₁ [] 0 0 := Stand.of_body Bd
  have e0 : s₁.heap = h0 := by rw [← hh, Bd.state]; rfl
  have N0 := Fr.nil n0
  obtain ⟨f₀, hf₀⟩ : ∃ f, f = entryFrame m #[(.int p0), (.int p1), (.int p2), (.int p3)] maxLocals := ⟨_, rfl⟩
  rw [← hf₀]
  have pre0 : Go p e below s₁ f₀ s₁ (mkF m 0 #[.val (.int p0), .val (.int p1), .val (.int p2), .val (.int p3), .unset, .unset, .unset, .unset, .unset, .unset, .unset, .unset] []) := fun t k => castTop (hf₀.trans (ef_rm0 m (p0) (p1) (p2) (p3))) k
  have hZ0 : Z.Warmed39 (s.setVm s.vm).vm := hZ
  have hown0 : (s.setVm s.vm).vm.findClass nUnfore_3 = some m.cls := hown
  have hS0 : s.Since s.vm s.heap.size := (State.WarmedH.refl s).since _
  have hk0 : s.heap.size ≤ h0.size := by rw [hh]; exact Nat.le_refl _
  have gp1 : Go p e below s₁ f₀ s₁ (mkF m 9 #[.val (.int p0), .val (.int p1), .val (.int p2), .val (.int p3), .val (.int (p0 &&& (7 : Int32))), .unset, .unset, .unset, .unset, .unset, .unset, .unset] [(.int (4 : Int32)), (.int (p0 &&& (7 : Int32)))]) := fun t kt => pre0 t (by
    refine XS.iloadN X0.here hx rfl (hb hby at_0) rfl ?_
    refine XS.bipush X0.here hx rfl (hb hby at_1) ?_
    refine XS.iand X0.here hx rfl (hb hby at_3) rfl ?_
    refine XS.istore X0.here hx rfl (hb hby at_4) rfl (l' := #[.val (.int p0), .val (.int p1), .val (.int p2), .val (.int p3), .val (.int (p0 &&& (7 : Int32))), .unset, .unset, .unset, .unset, .unset, .unset, .unset]) rfl ?_
    refine XS.iload X0.here hx rfl (hb hby at_6) rfl ?_
    refine XS.iconst X0.here hx rfl (hb hby at_8) ?_
    exact kt)
  by_cases h4 : (p0 &&& (7 : Int32)) = (4 : Int32)
  · have gp2 : Go p e below s₁ f₀ s₁ (mkF m 46 #[.val (.int p0), .val (.int p1), .val (.int p2), .val (.int p3), .val (.int (p0 &&& (7 : Int32))), .val (.int (1 : Int32)), .val (.int ((p0 &&& (7 : Int32)) &&& (3 : Int32))), .val (.int ((p1 &&& (65535 : Int32)).toUInt32.toUInt16.toUInt32.toInt32)), .val (.int ((p2 &&& (65535 : Int32)).toUInt32.toUInt16.toUInt32.toInt32)), .val (.int ((p3 &&& (65535 : Int32)).toUInt32.toUInt16.toUInt32.toInt32)), .unset, .unset] []) := fun t kt => gp1 t (by
      refine XS.icmpNo X0.here hx rfl (hb hby at_9) rfl (teq h4).2 ?_
      refine XS.iconst X0.here hx rfl (hb hby at_12) ?_
      refine XS.goto X0.here hx rfl (pc0 := 13) (pc' := 17) rfl (hb hby at_13) (by decide) (by decide) ?_
      refine XS.istore X0.here hx rfl (hb hby at_17) rfl (l' := #[.val (.int p0), .val (.int p1), .val (.int p2), .val (.int p3), .val (.int (p0 &&& (7 : Int32))), .val (.int (1 : Int32)), .unset, .unset, .unset, .unset, .unset, .unset]) rfl ?_
      refine XS.iload X0.here hx rfl (hb hby at_19) rfl ?_
      refine XS.iconst X0.here hx rfl (hb hby at_21) ?_
      refine XS.iand X0.here hx rfl (hb hby at_22) rfl ?_
      refine XS.istore X0.here hx rfl (hb hby at_23) rfl (l' := #[.val (.int p0), .val (.int p1), .val (.int p2), .val (.int p3), .val (.int (p0 &&& (7 : Int32))), .val (.int (1 : Int32)), .val (.int ((p0 &&& (7 : Int32)) &&& (3 : Int32))), .unset, .unset, .unset, .unset, .unset]) rfl ?_
      refine XS.iloadN X0.here hx rfl (hb hby at_25) rfl ?_
      refine X0.ldcInt hx hown0 (mvT hZ0 (wq hw 0 rfl)) (g := (mkF m 26 #[.val (.int p0), .val (.int p1), .val (.int p2), .val (.int p3), .val (.int (p0 &&& (7 : Int32))), .val (.int (1 : Int32)), .val (.int ((p0 &&& (7 : Int32)) &&& (3 : Int32))), .unset, .unset, .unset, .unset, .unset] [(.int p1)])) rfl (hb hby at_26) _ ?_
      refine XS.iand X0.here hx rfl (hb hby at_28) rfl ?_
      refine XS.i2c X0.here hx rfl (hb hby at_29) rfl ?_
      refine XS.istore X0.here hx rfl (hb hby at_30) rfl (l' := #[.val (.int p0), .val (.int p1), .val (.int p2), .val (.int p3), .val (.int (p0 &&& (7 : Int32))), .val (.int (1 : Int32)), .val (.int ((p0 &&& (7 : Int32)) &&& (3 : Int32))), .val (.int ((p1 &&& (65535 : Int32)).toUInt32.toUInt16.toUInt32.toInt32)), .unset, .unset, .unset, .unset]) rfl ?_
      refine XS.iloadN X0.here hx rfl (hb hby at_32) rfl ?_
      refine X0.ldcInt hx hown0 (mvT hZ0 (wq hw 0 rfl)) (g := (mkF m 33 #[.val (.int p0), .val (.int p1), .val (.int p2), .val (.int p3), .val (.int (p0 &&& (7 : Int32))), .val (.int (1 : Int32)), .val (.int ((p0 &&& (7 : Int32)) &&& (3 : Int32))), .val (.int ((p1 &&& (65535 : Int32)).toUInt32.toUInt16.toUInt32.toInt32)), .unset, .unset, .unset, .unset] [(.int p2)])) rfl (hb hby at_33) _ ?_
      refine XS.iand X0.here hx rfl (hb hby at_35) rfl ?_
      refine XS.i2c X0.here hx rfl (hb hby at_36) rfl ?_
      refine XS.istore X0.here hx rfl (hb hby at_37) rfl (l' := #[.val (.int p0), .val (.int p1), .val (.int p2), .val (.int p3), .val (.int (p0 &&& (7 : Int32))), .val (.int (1 : Int32)), .val (.int ((p0 &&& (7 : Int32)) &&& (3 : Int32))), .val (.int ((p1 &&& (65535 : Int32)).toUInt32.toUInt16.toUInt32.toInt32)), .val (.int ((p2 &&& (65535 : Int32)).toUInt32.toUInt16.toUInt32.toInt32)), .unset, .unset, .unset]) rfl ?_
      refine XS.iloadN X0.here hx rfl (hb hby at_39) rfl ?_
      refine X0.ldcInt hx hown0 (mvT hZ0 (wq hw 0 rfl)) (g := (mkF m 40 #[.val (.int p0), .val (.int p1), .val (.int p2), .val (.int p3), .val (.int (p0 &&& (7 : Int32))), .val (.int (1 : Int32)), .val (.int ((p0 &&& (7 : Int32)) &&& (3 : Int32))), .val (.int ((p1 &&& (65535 : Int32)).toUInt32.toUInt16.toUInt32.toInt32)), .val (.int ((p2 &&& (65535 : Int32)).toUInt32.toUInt16.toUInt32.toInt32)), .unset, .unset, .unset] [(.int p3)])) rfl (hb hby at_40) _ ?_
      refine XS.iand X0.here hx rfl (hb hby at_42) rfl ?_
      refine XS.i2c X0.here hx rfl (hb hby at_43) rfl ?_
      refine XS.istore X0.here hx rfl (hb hby at_44) rfl (l' := #[.val (.int p0), .val (.int p1), .val (.int p2), .val (.int p3), .val (.int (p0 &&& (7 : Int32))), .val (.int (1 : Int32)), .val (.int ((p0 &&& (7 : Int32)) &&& (3 : Int32))), .val (.int ((p1 &&& (65535 : Int32)).toUInt32.toUInt16.toUInt32.toInt32)), .val (.int ((p2 &&& (65535 : Int32)).toUInt32.toUInt16.toUInt32.toInt32)), .val (.int ((p3 &&& (65535 : Int32)).toUInt32.toUInt16.toUInt32.toInt32)), .unset, .unset]) rfl ?_
      exact kt)
    obtain ⟨c1, hc1⟩ : ∃ z, z = ((p1 &&& (65535 : Int32)).toUInt32.toUInt16.toUInt32.toInt32) := ⟨_, rfl⟩
    have gp3 := gp2
    rw [← hc1] at gp3
    have hC1 : nar .char c1 = c1 := by rw [hc1]; exact own_isC (p1 &&& (65535 : Int32))
    obtain ⟨c2, hc2⟩ : ∃ z, z = ((p2 &&& (65535 : Int32)).toUInt32.toUInt16.toUInt32.toInt32) := ⟨_, rfl⟩
    have gp4 := gp3
    rw [← hc2] at gp4
    have hC2 : nar .char c2 = c2 := by rw [hc2]; exact own_isC (p2 &&& (65535 : Int32))
    obtain ⟨c3, hc3⟩ : ∃ z, z = ((p3 &&& (65535 : Int32)).toUInt32.toUInt16.toUInt32.toInt32) := ⟨_, rfl⟩
    have gp5 := gp4
    rw [← hc3] at gp5
    have hC3 : nar .char c3 = c3 := by rw [hc3]; exact own_isC (p3 &&& (65535 : Int32))
    obtain ⟨_, _, ⟨T6, L6, k6, n6⟩, -, X6, ⟨Lc6, hQ6, l6, y6, z6⟩, st6⟩ := Jvm.LawKit.callS X0 hx (y := my_0) hown0 (mvT hZ0 (wq hw 27 rfl)) (mvT hZ0 (wq hw 28 rfl)) (mvT hZ0 (wq hw 29 rfl)) (mvT hZ0 (wq hw 30 rfl)) (by decide) (backOf (W := 0) (rc1_traceAsked l Z a0 hw [] cs hS  h0 n0 O0 ) hZ0 (wq hw 30 rfl) (wq hw 29 rfl) (by decide) (by decide)) (g := (mkF m 114 #[.val (.int p0), .val (.int p1), .val (.int p2), .val (.int p3), .val (.int (p0 &&& (7 : Int32))), .val (.int (1 : Int32)), .val (.int ((p0 &&& (7 : Int32)) &&& (3 : Int32))), .val (.int c1), .val (.int c2), .val (.int c3), .val .null, .val (.int (0 : Int32))] [.null])) rfl (by rw [hml]; rfl) (argsL := [.null]) (rest := []) (lenOf pd_0 rfl) rfl (by show 2 * 0 + _ ≤ _; exact Nat.le_of_eq rfl) (hb hby at_114) (fun _ _ => ⟨rfl, e0, (by decide : 0 + 0 ≤ _), (by decide : 0 + 0 ≤ _)⟩)
    dsimp only [Pt.U, Pt.locs, Pt.cells, Pt.slots] at X6 l6 y6 z6 st6 hQ6
    have X6 := own_to X6 l6 y6 z6
    obtain ⟨rfl, N6q, e6⟩ := hQ6
    have N6 := Fr.app N0 N6q
    obtain ⟨fs, hr, hrun, hended, hEW⟩ := Jvm.Stand.leaveW X6 hS0 (by rw [e6]; exact hk0) (v := (some (.int (1 : Int32)))) (fun h => by rw [Bd.returns] at h; cases h)
    refine ⟨_, _, gp5 _ ?_, hrun, hended, _, _, rfl, ?_, ⟨_, rfl⟩, hEW.2.1, hEW.2.2.1, hEW.2.2.2.mono (by decide) (by decide)⟩
    · refine XS.iload X0.here hx rfl (hb hby at_46) rfl ?_
      refine XS.ifNo X0.here hx rfl (hb hby at_48) rfl ((if0 _ _).trans (feq (by decide : ¬ ((1 : Int32) = (0 : Int32)))).1) ?_
      refine XS.aconstNull X0.here hx rfl (hb hby at_51) ?_
      refine XS.goto X0.here hx rfl (pc0 := 52) (pc' := 66) rfl (hb hby at_52) (by decide) (by decide) ?_
      refine XS.astore X0.here hx rfl (hb hby at_66) rfl rfl (l' := #[.val (.int p0), .val (.int p1), .val (.int p2), .val (.int p3), .val (.int (p0 &&& (7 : Int32))), .val (.int (1 : Int32)), .val (.int ((p0 &&& (7 : Int32)) &&& (3 : Int32))), .val (.int c1), .val (.int c2), .val (.int c3), .val .null, .unset]) rfl ?_
      refine XS.iload X0.here hx rfl (hb hby at_68) rfl ?_
      refine XS.ifNo X0.here hx rfl (hb hby at_70) rfl ((if0 _ _).trans (feq (by decide : ¬ ((1 : Int32) = (0 : Int32)))).1) ?_
      refine XS.iconst X0.here hx rfl (hb hby at_73) ?_
      refine XS.istore X0.here hx rfl (hb hby at_74) rfl (l' := #[.val (.int p0), .val (.int p1), .val (.int p2), .val (.int p3), .val (.int (p0 &&& (7 : Int32))), .val (.int (1 : Int32)), .val (.int ((p0 &&& (7 : Int32)) &&& (3 : Int32))), .val (.int c1), .val (.int c2), .val (.int c3), .val .null, .val (.int (0 : Int32))]) rfl ?_
      refine XS.goto X0.here hx rfl (pc0 := 76) (pc' := 112) rfl (hb hby at_76) (by decide) (by decide) ?_
      refine XS.aload X0.here hx rfl (hb hby at_112) rfl rfl ?_
      refine st6 _ ?_
      refine XS.iload X6.here hx rfl (hb hby at_117) rfl ?_
      refine XS.icmpNo X6.here hx rfl (hb hby at_119) rfl (teq (by decide : (0 : Int32) = (0 : Int32))).2 ?_
      refine XS.iconst X6.here hx rfl (hb hby at_122) ?_
      refine XS.goto X6.here hx rfl (pc0 := 123) (pc' := 127) rfl (hb hby at_123) (by decide) (by decide) ?_
      exact retN X6 hx (t := .boolean) Bd.returns (by simp) (hb hby at_127) hr
    · show Q0 n0 _ T6.heap _
      rw [e6]
      exact ⟨rfl, N6⟩
  · have gp7 : Go p e below s₁ f₀ s₁ (mkF m 46 #[.val (.int p0), .val (.int p1), .val (.int p2), .val (.int p3), .val (.int (p0 &&& (7 : Int32))), .val (.int (0 : Int32)), .val (.int ((p0 &&& (7 : Int32)) &&& (3 : Int32))), .val (.int ((p1 &&& (65535 : Int32)).toUInt32.toUInt16.toUInt32.toInt32)), .val (.int ((p2 &&& (65535 : Int32)).toUInt32.toUInt16.toUInt32.toInt32)), .val (.int ((p3 &&& (65535 : Int32)).toUInt32.toUInt16.toUInt32.toInt32)), .unset, .unset] []) := fun t kt => gp1 t (by
      refine XS.icmpYes X0.here hx rfl (pc0 := 9) (pc' := 16) rfl (hb hby at_9) rfl (feq h4).2 (by decide) (by decide) ?_
      refine XS.iconst X0.here hx rfl (hb hby at_16) ?_
      refine XS.istore X0.here hx rfl (hb hby at_17) rfl (l' := #[.val (.int p0), .val (.int p1), .val (.int p2), .val (.int p3), .val (.int (p0 &&& (7 : Int32))), .val (.int (0 : Int32)), .unset, .unset, .unset, .unset, .unset, .unset]) rfl ?_
      refine XS.iload X0.here hx rfl (hb hby at_19) rfl ?_
      refine XS.iconst X0.here hx rfl (hb hby at_21) ?_
      refine XS.iand X0.here hx rfl (hb hby at_22) rfl ?_
      refine XS.istore X0.here hx rfl (hb hby at_23) rfl (l' := #[.val (.int p0), .val (.int p1), .val (.int p2), .val (.int p3), .val (.int (p0 &&& (7 : Int32))), .val (.int (0 : Int32)), .val (.int ((p0 &&& (7 : Int32)) &&& (3 : Int32))), .unset, .unset, .unset, .unset, .unset]) rfl ?_
      refine XS.iloadN X0.here hx rfl (hb hby at_25) rfl ?_
      refine X0.ldcInt hx hown0 (mvT hZ0 (wq hw 0 rfl)) (g := (mkF m 26 #[.val (.int p0), .val (.int p1), .val (.int p2), .val (.int p3), .val (.int (p0 &&& (7 : Int32))), .val (.int (0 : Int32)), .val (.int ((p0 &&& (7 : Int32)) &&& (3 : Int32))), .unset, .unset, .unset, .unset, .unset] [(.int p1)])) rfl (hb hby at_26) _ ?_
      refine XS.iand X0.here hx rfl (hb hby at_28) rfl ?_
      refine XS.i2c X0.here hx rfl (hb hby at_29) rfl ?_
      refine XS.istore X0.here hx rfl (hb hby at_30) rfl (l' := #[.val (.int p0), .val (.int p1), .val (.int p2), .val (.int p3), .val (.int (p0 &&& (7 : Int32))), .val (.int (0 : Int32)), .val (.int ((p0 &&& (7 : Int32)) &&& (3 : Int32))), .val (.int ((p1 &&& (65535 : Int32)).toUInt32.toUInt16.toUInt32.toInt32)), .unset, .unset, .unset, .unset]) rfl ?_
      refine XS.iloadN X0.here hx rfl (hb hby at_32) rfl ?_
      refine X0.ldcInt hx hown0 (mvT hZ0 (wq hw 0 rfl)) (g := (mkF m 33 #[.val (.int p0), .val (.int p1), .val (.int p2), .val (.int p3), .val (.int (p0 &&& (7 : Int32))), .val (.int (0 : Int32)), .val (.int ((p0 &&& (7 : Int32)) &&& (3 : Int32))), .val (.int ((p1 &&& (65535 : Int32)).toUInt32.toUInt16.toUInt32.toInt32)), .unset, .unset, .unset, .unset] [(.int p2)])) rfl (hb hby at_33) _ ?_
      refine XS.iand X0.here hx rfl (hb hby at_35) rfl ?_
      refine XS.i2c X0.here hx rfl (hb hby at_36) rfl ?_
      refine XS.istore X0.here hx rfl (hb hby at_37) rfl (l' := #[.val (.int p0), .val (.int p1), .val (.int p2), .val (.int p3), .val (.int (p0 &&& (7 : Int32))), .val (.int (0 : Int32)), .val (.int ((p0 &&& (7 : Int32)) &&& (3 : Int32))), .val (.int ((p1 &&& (65535 : Int32)).toUInt32.toUInt16.toUInt32.toInt32)), .val (.int ((p2 &&& (65535 : Int32)).toUInt32.toUInt16.toUInt32.toInt32)), .unset, .unset, .unset]) rfl ?_
      refine XS.iloadN X0.here hx rfl (hb hby at_39) rfl ?_
      refine X0.ldcInt hx hown0 (mvT hZ0 (wq hw 0 rfl)) (g := (mkF m 40 #[.val (.int p0), .val (.int p1), .val (.int p2), .val (.int p3), .val (.int (p0 &&& (7 : Int32))), .val (.int (0 : Int32)), .val (.int ((p0 &&& (7 : Int32)) &&& (3 : Int32))), .val (.int ((p1 &&& (65535 : Int32)).toUInt32.toUInt16.toUInt32.toInt32)), .val (.int ((p2 &&& (65535 : Int32)).toUInt32.toUInt16.toUInt32.toInt32)), .unset, .unset, .unset] [(.int p3)])) rfl (hb hby at_40) _ ?_
      refine XS.iand X0.here hx rfl (hb hby at_42) rfl ?_
      refine XS.i2c X0.here hx rfl (hb hby at_43) rfl ?_
      refine XS.istore X0.here hx rfl (hb hby at_44) rfl (l' := #[.val (.int p0), .val (.int p1), .val (.int p2), .val (.int p3), .val (.int (p0 &&& (7 : Int32))), .val (.int (0 : Int32)), .val (.int ((p0 &&& (7 : Int32)) &&& (3 : Int32))), .val (.int ((p1 &&& (65535 : Int32)).toUInt32.toUInt16.toUInt32.toInt32)), .val (.int ((p2 &&& (65535 : Int32)).toUInt32.toUInt16.toUInt32.toInt32)), .val (.int ((p3 &&& (65535 : Int32)).toUInt32.toUInt16.toUInt32.toInt32)), .unset, .unset]) rfl ?_
      exact kt)
    obtain ⟨c1, hc1⟩ : ∃ z, z = ((p1 &&& (65535 : Int32)).toUInt32.toUInt16.toUInt32.toInt32) := ⟨_, rfl⟩
    have gp8 := gp7
    rw [← hc1] at gp8
    have hC1 : nar .char c1 = c1 := by rw [hc1]; exact own_isC (p1 &&& (65535 : Int32))
    obtain ⟨c2, hc2⟩ : ∃ z, z = ((p2 &&& (65535 : Int32)).toUInt32.toUInt16.toUInt32.toInt32) := ⟨_, rfl⟩
    have gp9 := gp8
    rw [← hc2] at gp9
    have hC2 : nar .char c2 = c2 := by rw [hc2]; exact own_isC (p2 &&& (65535 : Int32))
    obtain ⟨c3, hc3⟩ : ∃ z, z = ((p3 &&& (65535 : Int32)).toUInt32.toUInt16.toUInt32.toInt32) := ⟨_, rfl⟩
    have gp10 := gp9
    rw [← hc3] at gp10
    have hC3 : nar .char c3 = c3 := by rw [hc3]; exact own_isC (p3 &&& (65535 : Int32))
    have gp11 : Go p e below s₁ f₀ s₁ (mkF m 55 #[.val (.int p0), .val (.int p1), .val (.int p2), .val (.int p3), .val (.int (p0 &&& (7 : Int32))), .val (.int (0 : Int32)), .val (.int ((p0 &&& (7 : Int32)) &&& (3 : Int32))), .val (.int c1), .val (.int c2), .val (.int c3), .unset, .unset] []) := fun t kt => gp10 t (by
      refine XS.iload X0.here hx rfl (hb hby at_46) rfl ?_
      refine XS.ifYes X0.here hx rfl (pc0 := 48) (pc' := 55) rfl (hb hby at_48) rfl ((if0 _ _).trans (teq (by decide : (0 : Int32) = (0 : Int32))).1) (by decide) (by decide) ?_
      exact kt)
    rcases (own_c3 (p0 &&& (7 : Int32))) with hk | hk | hk | hk
    · have gp12 := gp11
      rw [hk] at gp12
      obtain ⟨_, _, ⟨T13, L13, k13, n13⟩, -, X13, hSi13, hge13, ⟨Lc13, hQ13, l13, y13, z13⟩, st13⟩ := callSS X0 hx (y := my_3) hown0 (mvT hZ0 (wq hw 1 rfl)) (mvT hZ0 (wq hw 2 rfl)) (mvT hZ0 (wq hw 3 rfl)) (mvT hZ0 (wq hw 4 rfl)) (by decide) (own_backCH (W := 0) (rc2_make l Z a0 hw [] cs hS c1 c2 c3 h0 n0 O0 ) hZ0 (wq hw 4 rfl) (wq hw 3 rfl) (by decide) (by decide) (own_EL hw) hCH) (g := (mkF m 63 #[.val (.int p0), .val (.int p1), .val (.int p2), .val (.int p3), .val (.int (p0 &&& (7 : Int32))), .val (.int (0 : Int32)), .val (.int (0 : Int32)), .val (.int c1), .val (.int c2), .val (.int c3), .unset, .unset] [(.int c3), (.int c2), (.int c1), (.int (0 : Int32))])) rfl (by rw [hml]; rfl) (argsL := [(.int (0 : Int32)), (.int c1), (.int c2), (.int c3)]) (rest := []) (lenOf pd_3 rfl) rfl (by show 2 * 0 + _ ≤ _; exact Nat.le_of_eq rfl) (hb hby at_63) (fun _ _ => ⟨rfl, e0, (by decide : 0 + 4 ≤ _), (by decide : 0 + 8 ≤ _)⟩)
      dsimp only [Pt.U, Pt.locs, Pt.cells, Pt.slots] at X13 l13 y13 z13 st13 hQ13 hSi13 hge13
      have X13 := own_to X13 l13 y13 z13
      obtain ⟨X13r, hS13, hZ13, hown13⟩ := rebS hS0 hk0 X13 hSi13 (by rw [← e0]; exact hge13) hZ0 hown0
      obtain ⟨x13_b1, x13_x20_x2_sb2, x13_x20_x2_kc2, rfl, N13q, K13, sz13_b1, q13_0, q13_1, q13_2, q13_3⟩ := hQ13
      have N13 := Fr.app N0 N13q
      have g14 : n0 ≤ x13_b1 := Nat.le_trans (Nat.le_of_eq O0.1.symm) (Nat.le_trans O0.2.1 sz13_b1)
      have s15 : h0.size ≤ x13_b1 := Nat.le_trans (Keep.refl h0 []).1 sz13_b1
      have O16 : Old Z n0 T13.heap := Old.keep O0 K13 all0
      have K17 : Keep h0 T13.heap [] := (Keep.refl h0 []).trans K13 all0
      obtain ⟨_, _, ⟨T18, L18, k18, n18⟩, -, X18, ⟨Lc18, hQ18, l18, y18, z18⟩, st18⟩ := Jvm.LawKit.callS X13r hx (y := my_0) hown13 (mvT hZ13 (wq hw 27 rfl)) (mvT hZ13 (wq hw 28 rfl)) (mvT hZ13 (wq hw 29 rfl)) (mvT hZ13 (wq hw 30 rfl)) (by decide) (backOf (W := 0) (rc5_traceAsked l Z a0 hw [] cs hS x13_b1 x13_x20_x2_sb2 x13_x20_x2_kc2 T13.heap n0 O16 g14 q13_0 q13_2 q13_3) hZ13 (wq hw 30 rfl) (wq hw 29 rfl) (by decide) (by decide)) (g := (mkF m 114 #[.val (.int p0), .val (.int p1), .val (.int p2), .val (.int p3), .val (.int (p0 &&& (7 : Int32))), .val (.int (0 : Int32)), .val (.int (0 : Int32)), .val (.int c1), .val (.int c2), .val (.int c3), .val (.ref x13_b1), .val (.int (0 : Int32))] [(.ref x13_b1)])) rfl (by rw [hml]; rfl) (argsL := [(.ref x13_b1)]) (rest := []) (lenOf pd_0 rfl) rfl (by show 2 * 0 + _ ≤ _; exact Nat.le_of_eq rfl) (hb hby at_114) (fun _ _ => ⟨rfl, rfl, (by decide : 4 + 0 ≤ _), (by decide : 8 + 0 ≤ _)⟩)
      dsimp only [Pt.U, Pt.locs, Pt.cells, Pt.slots] at X18 l18 y18 z18 st18 hQ18
      have X18 := own_to X18 l18 y18 z18
      obtain ⟨rfl, N18q, e18⟩ := hQ18
      have N18 := Fr.app N13 N18q
      obtain ⟨fs, hr, hrun, hended, hEW⟩ := Jvm.Stand.leaveW X18 hS13 (by rw [e18]; exact (Nat.le_refl _)) (v := (some (.int (1 : Int32)))) (fun h => by rw [Bd.returns] at h; cases h)
      refine ⟨_, _, gp12 _ ?_, hrun, hended, _, _, rfl, ?_, ⟨_, rfl⟩, hEW.2.1, hEW.2.2.1, hEW.2.2.2.mono (by decide) (by decide)⟩
      · refine XS.iload X0.here hx rfl (hb hby at_55) rfl ?_
        refine XS.iload X0.here hx rfl (hb hby at_57) rfl ?_
        refine XS.iload X0.here hx rfl (hb hby at_59) rfl ?_
        refine XS.iload X0.here hx rfl (hb hby at_61) rfl ?_
        refine st13.trans ?_
        refine XS.astore X13r.here hx rfl (hb hby at_66) rfl rfl (l' := #[.val (.int p0), .val (.int p1), .val (.int p2), .val (.int p3), .val (.int (p0 &&& (7 : Int32))), .val (.int (0 : Int32)), .val (.int (0 : Int32)), .val (.int c1), .val (.int c2), .val (.int c3), .val (.ref x13_b1), .unset]) rfl ?_
        refine XS.iload X13r.here hx rfl (hb hby at_68) rfl ?_
        refine XS.ifYes X13r.here hx rfl (pc0 := 70) (pc' := 79) rfl (hb hby at_70) rfl ((if0 _ _).trans (teq (by decide : (0 : Int32) = (0 : Int32))).1) (by decide) (by decide) ?_
        refine XS.iload X13r.here hx rfl (hb hby at_79) rfl ?_
        refine XS.ifNo X13r.here hx rfl (hb hby at_81) rfl ((if0 _ _).trans (teq (by decide : (0 : Int32) = (0 : Int32))).2) ?_
        refine XS.iconst X13r.here hx rfl (hb hby at_84) ?_
        refine XS.istore X13r.here hx rfl (hb hby at_85) rfl (l' := #[.val (.int p0), .val (.int p1), .val (.int p2), .val (.int p3), .val (.int (p0 &&& (7 : Int32))), .val (.int (0 : Int32)), .val (.int (0 : Int32)), .val (.int c1), .val (.int c2), .val (.int c3), .val (.ref x13_b1), .val (.int (0 : Int32))]) rfl ?_
        refine XS.goto X13r.here hx rfl (pc0 := 87) (pc' := 112) rfl (hb hby at_87) (by decide) (by decide) ?_
        refine XS.aload X13r.here hx rfl (hb hby at_112) rfl rfl ?_
        refine st18 _ ?_
        refine XS.iload X18.here hx rfl (hb hby at_117) rfl ?_
        refine XS.icmpNo X18.here hx rfl (hb hby at_119) rfl (teq (by decide : (0 : Int32) = (0 : Int32))).2 ?_
        refine XS.iconst X18.here hx rfl (hb hby at_122) ?_
        refine XS.goto X18.here hx rfl (pc0 := 123) (pc' := 127) rfl (hb hby at_123) (by decide) (by decide) ?_
        exact retN X18 hx (t := .boolean) Bd.returns (by simp) (hb hby at_127) hr
      · show Q0 n0 _ T18.heap _
        rw [e18]
        exact ⟨rfl, N18⟩
    · have gp19 := gp11
      rw [hk] at gp19
      by_cases hg1 : (255 : Int32) < c1
      · have _ := hg1
        obtain ⟨_, _, ⟨T20, L20, k20, n20⟩, -, X20, ⟨Lc20, hQ20, l20, y20, z20⟩, st20⟩ := Jvm.LawKit.callS X0 hx (y := my_3) hown0 (mvT hZ0 (wq hw 1 rfl)) (mvT hZ0 (wq hw 2 rfl)) (mvT hZ0 (wq hw 3 rfl)) (mvT hZ0 (wq hw 4 rfl)) (by decide) (backOf (W := 0) (rc7_make l Z a0 hw [] cs hS c1 c2 c3 h0 n0 O0 hC1 hg1) hZ0 (wq hw 4 rfl) (wq hw 3 rfl) (by decide) (by decide)) (g := (mkF m 63 #[.val (.int p0), .val (.int p1), .val (.int p2), .val (.int p3), .val (.int (p0 &&& (7 : Int32))), .val (.int (0 : Int32)), .val (.int (1 : Int32)), .val (.int c1), .val (.int c2), .val (.int c3), .unset, .unset] [(.int c3), (.int c2), (.int c1), (.int (1 : Int32))])) rfl (by rw [hml]; rfl) (argsL := [(.int (1 : Int32)), (.int c1), (.int c2), (.int c3)]) (rest := []) (lenOf pd_3 rfl) rfl (by show 2 * 0 + _ ≤ _; exact Nat.le_of_eq rfl) (hb hby at_63) (fun _ _ => ⟨rfl, e0, (by decide : 0 + 4 ≤ _), (by decide : 0 + 8 ≤ _)⟩)
        dsimp only [Pt.U, Pt.locs, Pt.cells, Pt.slots] at X20 l20 y20 z20 st20 hQ20
        have X20 := own_to X20 l20 y20 z20
        obtain ⟨x20_b1, x20_x24_x2_x3_x10_x1_b2, x20_x24_x2_x3_x10_x1_k2, rfl, N20q, K20, sz20_b1, sz20_x24_x2_x3_x10_x1_b2, q20_0, q20_1, q20_2, q20_3⟩ := hQ20
        have N20 := Fr.app N0 N20q
        have g21 : n0 ≤ x20_b1 := Nat.le_trans (Nat.le_of_eq O0.1.symm) (Nat.le_trans O0.2.1 sz20_b1)
        have s22 : h0.size ≤ x20_b1 := Nat.le_trans (Keep.refl h0 []).1 sz20_b1
        have g23 : n0 ≤ x20_x24_x2_x3_x10_x1_b2 := Nat.le_trans (Nat.le_of_eq O0.1.symm) (Nat.le_trans O0.2.1 sz20_x24_x2_x3_x10_x1_b2)
        have s24 : h0.size ≤ x20_x24_x2_x3_x10_x1_b2 := Nat.le_trans (Keep.refl h0 []).1 sz20_x24_x2_x3_x10_x1_b2
        have O25 : Old Z n0 T20.heap := Old.keep O0 K20 all0
        have K26 : Keep h0 T20.heap [] := (Keep.refl h0 []).trans K20 all0
        have hk27 := Nat.le_trans hk0 K20.1
        obtain ⟨_, _, ⟨T28, L28, k28, n28⟩, -, X28, hSi28, hge28, ⟨Lc28, hQ28, l28, y28, z28⟩, st28⟩ := callSS X20 hx (y := my_0) hown0 (mvT hZ0 (wq hw 27 rfl)) (mvT hZ0 (wq hw 28 rfl)) (mvT hZ0 (wq hw 29 rfl)) (mvT hZ0 (wq hw 30 rfl)) (by decide) (own_backCH (W := 0) (rc18_traceAsked l Z a0 hw [] cs hS x20_b1 x20_x24_x2_x3_x10_x1_b2 x20_x24_x2_x3_x10_x1_k2 (nar .byte ((c1 >>> ((0 : Int32) &&& 31)).toInt8.toInt32)) (nar .byte ((c1 >>> ((8 : Int32) &&& 31)).toInt8.toInt32)) T20.heap n0 O25 g21 g23 q20_0 q20_1 q20_2 q20_3) hZ0 (wq hw 30 rfl) (wq hw 29 rfl) (by decide) (by decide) (own_EL hw) (own_CHx K26 hCH.1 s22 q20_0.lt)) (g := (mkF m 114 #[.val (.int p0), .val (.int p1), .val (.int p2), .val (.int p3), .val (.int (p0 &&& (7 : Int32))), .val (.int (0 : Int32)), .val (.int (1 : Int32)), .val (.int c1), .val (.int c2), .val (.int c3), .val (.ref x20_b1), .val (.int (1 : Int32))] [(.ref x20_b1)])) rfl (by rw [hml]; rfl) (argsL := [(.ref x20_b1)]) (rest := []) (lenOf pd_0 rfl) rfl (by show 2 * 0 + _ ≤ _; exact Nat.le_of_eq rfl) (hb hby at_114) (fun _ _ => ⟨rfl, rfl, (by decide : 4 + 2 ≤ _), (by decide : 8 + 8 ≤ _)⟩)
        dsimp only [Pt.U, Pt.locs, Pt.cells, Pt.slots] at X28 l28 y28 z28 st28 hQ28 hSi28 hge28
        have X28 := own_to X28 l28 y28 z28
        obtain ⟨X28r, hS28, hZ28, hown28⟩ := rebS hS0 hk27 X28 hSi28 hge28 hZ0 hown0
        obtain ⟨rfl, N28q, K28⟩ := hQ28
        have N28 := Fr.app N20 N28q
        have O29 : Old Z n0 T28.heap := Old.keep O25 K28 all0
        have K30 : Keep h0 T28.heap [] := K26.trans K28 all0
        obtain ⟨fs, hr, hrun, hended, hEW⟩ := Jvm.Stand.leaveW X28r hS28 (Nat.le_refl _) (v := (some (.int (1 : Int32)))) (fun h => by rw [Bd.returns] at h; cases h)
        refine ⟨_, _, gp19 _ ?_, hrun, hended, _, _, rfl, ?_, ⟨_, rfl⟩, hEW.2.1, hEW.2.2.1, hEW.2.2.2.mono (by decide) (by decide)⟩
        · refine XS.iload X0.here hx rfl (hb hby at_55) rfl ?_
          refine XS.iload X0.here hx rfl (hb hby at_57) rfl ?_
          refine XS.iload X0.here hx rfl (hb hby at_59) rfl ?_
          refine XS.iload X0.here hx rfl (hb hby at_61) rfl ?_
          refine st20 _ ?_
          refine XS.astore X20.here hx rfl (hb hby at_66) rfl rfl (l' := #[.val (.int p0), .val (.int p1), .val (.int p2), .val (.int p3), .val (.int (p0 &&& (7 : Int32))), .val (.int (0 : Int32)), .val (.int (1 : Int32)), .val (.int c1), .val (.int c2), .val (.int c3), .val (.ref x20_b1), .unset]) rfl ?_
          refine XS.iload X20.here hx rfl (hb hby at_68) rfl ?_
          refine XS.ifYes X20.here hx rfl (pc0 := 70) (pc' := 79) rfl (hb hby at_70) rfl ((if0 _ _).trans (teq (by decide : (0 : Int32) = (0 : Int32))).1) (by decide) (by decide) ?_
          refine XS.iload X20.here hx rfl (hb hby at_79) rfl ?_
          refine XS.ifYes X20.here hx rfl (pc0 := 81) (pc' := 90) rfl (hb hby at_81) rfl ((if0 _ _).trans (feq (by decide : ¬ ((1 : Int32) = (0 : Int32)))).2) (by decide) (by decide) ?_
          refine XS.iload X20.here hx rfl (hb hby at_90) rfl ?_
          refine XS.iconst X20.here hx rfl (hb hby at_92) ?_
          refine XS.icmpNo X20.here hx rfl (hb hby at_93) rfl (teq (by decide : (1 : Int32) = (1 : Int32))).2 ?_
          refine XS.iload X20.here hx rfl (hb hby at_96) rfl ?_
          refine XS.bipush X20.here hx rfl (hb hby at_98) ?_
          refine XS.icmpYes X20.here hx rfl (pc0 := 100) (pc' := 109) rfl (hb hby at_100) rfl (feq (own_n48 hg1)).2 (by decide) (by decide) ?_
          refine XS.iconst X20.here hx rfl (hb hby at_109) ?_
          refine XS.istore X20.here hx rfl (hb hby at_110) rfl (l' := #[.val (.int p0), .val (.int p1), .val (.int p2), .val (.int p3), .val (.int (p0 &&& (7 : Int32))), .val (.int (0 : Int32)), .val (.int (1 : Int32)), .val (.int c1), .val (.int c2), .val (.int c3), .val (.ref x20_b1), .val (.int (1 : Int32))]) rfl ?_
          refine XS.aload X20.here hx rfl (hb hby at_112) rfl rfl ?_
          refine st28.trans ?_
          refine XS.iload X28r.here hx rfl (hb hby at_117) rfl ?_
          refine XS.icmpNo X28r.here hx rfl (hb hby at_119) rfl (teq (by decide : (1 : Int32) = (1 : Int32))).2 ?_
          refine XS.iconst X28r.here hx rfl (hb hby at_122) ?_
          refine XS.goto X28r.here hx rfl (pc0 := 123) (pc' := 127) rfl (hb hby at_123) (by decide) (by decide) ?_
          exact retN X28r hx (t := .boolean) Bd.returns (by simp) (hb hby at_127) hr
        · show Q0 n0 _ T28.heap _
          exact ⟨rfl, N28⟩
      · have _ := hg1
        by_cases h48 : c1 = (48 : Int32)
        · have _ := h48
          obtain ⟨_, _, ⟨T31, L31, k31, n31⟩, -, X31, ⟨Lc31, hQ31, l31, y31, z31⟩, st31⟩ := Jvm.LawKit.callS X0 hx (y := my_3) hown0 (mvT hZ0 (wq hw 1 rfl)) (mvT hZ0 (wq hw 2 rfl)) (mvT hZ0 (wq hw 3 rfl)) (mvT hZ0 (wq hw 4 rfl)) (by decide) (backOf (W := 0) (rc21_make l Z a0 hw [] cs hS c1 c2 c3 h0 n0 O0 hC1 hg1) hZ0 (wq hw 4 rfl) (wq hw 3 rfl) (by decide) (by decide)) (g := (mkF m 63 #[.val (.int p0), .val (.int p1), .val (.int p2), .val (.int p3), .val (.int (p0 &&& (7 : Int32))), .val (.int (0 : Int32)), .val (.int (1 : Int32)), .val (.int c1), .val (.int c2), .val (.int c3), .unset, .unset] [(.int c3), (.int c2), (.int c1), (.int (1 : Int32))])) rfl (by rw [hml]; rfl) (argsL := [(.int (1 : Int32)), (.int c1), (.int c2), (.int c3)]) (rest := []) (lenOf pd_3 rfl) rfl (by show 2 * 0 + _ ≤ _; exact Nat.le_of_eq rfl) (hb hby at_63) (fun _ _ => ⟨rfl, e0, (by decide : 0 + 3 ≤ _), (by decide : 0 + 6 ≤ _)⟩)
          dsimp only [Pt.U, Pt.locs, Pt.cells, Pt.slots] at X31 l31 y31 z31 st31 hQ31
          have X31 := own_to X31 l31 y31 z31
          obtain ⟨x31_b1, x31_x24_x2_x3_b1, x31_x24_x2_x3_k1, rfl, N31q, K31, sz31_b1, sz31_x24_x2_x3_b1, q31_0, q31_1, q31_2, q31_3⟩ := hQ31
          have N31 := Fr.app N0 N31q
          have g32 : n0 ≤ x31_b1 := Nat.le_trans (Nat.le_of_eq O0.1.symm) (Nat.le_trans O0.2.1 sz31_b1)
          have s33 : h0.size ≤ x31_b1 := Nat.le_trans (Keep.refl h0 []).1 sz31_b1
          have g34 : n0 ≤ x31_x24_x2_x3_b1 := Nat.le_trans (Nat.le_of_eq O0.1.symm) (Nat.le_trans O0.2.1 sz31_x24_x2_x3_b1)
          have s35 : h0.size ≤ x31_x24_x2_x3_b1 := Nat.le_trans (Keep.refl h0 []).1 sz31_x24_x2_x3_b1
          have O36 : Old Z n0 T31.heap := Old.keep O0 K31 all0
          have K37 : Keep h0 T31.heap [] := (Keep.refl h0 []).trans K31 all0
          have hk38 := Nat.le_trans hk0 K31.1
          obtain ⟨_, _, ⟨T39, L39, k39, n39⟩, -, X39, hSi39, hge39, ⟨Lc39, hQ39, l39, y39, z39⟩, st39⟩ := callSS X31 hx (y := my_0) hown0 (mvT hZ0 (wq hw 27 rfl)) (mvT hZ0 (wq hw 28 rfl)) (mvT hZ0 (wq hw 29 rfl)) (mvT hZ0 (wq hw 30 rfl)) (by decide) (own_backCH (W := 0) (rc27_traceAsked l Z a0 hw [] cs hS x31_b1 x31_x24_x2_x3_b1 x31_x24_x2_x3_k1 (nar .byte (c1.toInt8.toInt32)) T31.heap n0 O36 g32 g34 q31_0 q31_1 q31_2 q31_3 (own_48n h48)) hZ0 (wq hw 30 rfl) (wq hw 29 rfl) (by decide) (by decide) (own_EL hw) (own_CHx K37 hCH.1 s33 q31_0.lt)) (g := (mkF m 114 #[.val (.int p0), .val (.int p1), .val (.int p2), .val (.int p3), .val (.int (p0 &&& (7 : Int32))), .val (.int (0 : Int32)), .val (.int (1 : Int32)), .val (.int c1), .val (.int c2), .val (.int c3), .val (.ref x31_b1), .val (.int (0 : Int32))] [(.ref x31_b1)])) rfl (by rw [hml]; rfl) (argsL := [(.ref x31_b1)]) (rest := []) (lenOf pd_0 rfl) rfl (by show 2 * 0 + _ ≤ _; exact Nat.le_of_eq rfl) (hb hby at_114) (fun _ _ => ⟨rfl, rfl, (by decide : 3 + 2 ≤ _), (by decide : 6 + 8 ≤ _)⟩)
          dsimp only [Pt.U, Pt.locs, Pt.cells, Pt.slots] at X39 l39 y39 z39 st39 hQ39 hSi39 hge39
          have X39 := own_to X39 l39 y39 z39
          obtain ⟨X39r, hS39, hZ39, hown39⟩ := rebS hS0 hk38 X39 hSi39 hge39 hZ0 hown0
          obtain ⟨rfl, N39q, K39⟩ := hQ39
          have N39 := Fr.app N31 N39q
          have O40 : Old Z n0 T39.heap := Old.keep O36 K39 all0
          have K41 : Keep h0 T39.heap [] := K37.trans K39 all0
          obtain ⟨fs, hr, hrun, hended, hEW⟩ := Jvm.Stand.leaveW X39r hS39 (Nat.le_refl _) (v := (some (.int (1 : Int32)))) (fun h => by rw [Bd.returns] at h; cases h)
          refine ⟨_, _, gp19 _ ?_, hrun, hended, _, _, rfl, ?_, ⟨_, rfl⟩, hEW.2.1, hEW.2.2.1, hEW.2.2.2.mono (by decide) (by decide)⟩
          · refine XS.iload X0.here hx rfl (hb hby at_55) rfl ?_
            refine XS.iload X0.here hx rfl (hb hby at_57) rfl ?_
            refine XS.iload X0.here hx rfl (hb hby at_59) rfl ?_
            refine XS.iload X0.here hx rfl (hb hby at_61) rfl ?_
            refine st31 _ ?_
            refine XS.astore X31.here hx rfl (hb hby at_66) rfl rfl (l' := #[.val (.int p0), .val (.int p1), .val (.int p2), .val (.int p3), .val (.int (p0 &&& (7 : Int32))), .val (.int (0 : Int32)), .val (.int (1 : Int32)), .val (.int c1), .val (.int c2), .val (.int c3), .val (.ref x31_b1), .unset]) rfl ?_
            refine XS.iload X31.here hx rfl (hb hby at_68) rfl ?_
            refine XS.ifYes X31.here hx rfl (pc0 := 70) (pc' := 79) rfl (hb hby at_70) rfl ((if0 _ _).trans (teq (by decide : (0 : Int32) = (0 : Int32))).1) (by decide) (by decide) ?_
            refine XS.iload X31.here hx rfl (hb hby at_79) rfl ?_
            refine XS.ifYes X31.here hx rfl (pc0 := 81) (pc' := 90) rfl (hb hby at_81) rfl ((if0 _ _).trans (feq (by decide : ¬ ((1 : Int32) = (0 : Int32)))).2) (by decide) (by decide) ?_
            refine XS.iload X31.here hx rfl (hb hby at_90) rfl ?_
            refine XS.iconst X31.here hx rfl (hb hby at_92) ?_
            refine XS.icmpNo X31.here hx rfl (hb hby at_93) rfl (teq (by decide : (1 : Int32) = (1 : Int32))).2 ?_
            refine XS.iload X31.here hx rfl (hb hby at_96) rfl ?_
            refine XS.bipush X31.here hx rfl (hb hby at_98) ?_
            refine XS.icmpNo X31.here hx rfl (hb hby at_100) rfl (teq h48).2 ?_
            refine XS.iconst X31.here hx rfl (hb hby at_103) ?_
            refine XS.istore X31.here hx rfl (hb hby at_104) rfl (l' := #[.val (.int p0), .val (.int p1), .val (.int p2), .val (.int p3), .val (.int (p0 &&& (7 : Int32))), .val (.int (0 : Int32)), .val (.int (1 : Int32)), .val (.int c1), .val (.int c2), .val (.int c3), .val (.ref x31_b1), .val (.int (0 : Int32))]) rfl ?_
            refine XS.goto X31.here hx rfl (pc0 := 106) (pc' := 112) rfl (hb hby at_106) (by decide) (by decide) ?_
            refine XS.aload X31.here hx rfl (hb hby at_112) rfl rfl ?_
            refine st39.trans ?_
            refine XS.iload X39r.here hx rfl (hb hby at_117) rfl ?_
            refine XS.icmpNo X39r.here hx rfl (hb hby at_119) rfl (teq (by decide : (0 : Int32) = (0 : Int32))).2 ?_
            refine XS.iconst X39r.here hx rfl (hb hby at_122) ?_
            refine XS.goto X39r.here hx rfl (pc0 := 123) (pc' := 127) rfl (hb hby at_123) (by decide) (by decide) ?_
            exact retN X39r hx (t := .boolean) Bd.returns (by simp) (hb hby at_127) hr
          · show Q0 n0 _ T39.heap _
            exact ⟨rfl, N39⟩
        · have _ := h48
          obtain ⟨_, _, ⟨T42, L42, k42, n42⟩, -, X42, ⟨Lc42, hQ42, l42, y42, z42⟩, st42⟩ := Jvm.LawKit.callS X0 hx (y := my_3) hown0 (mvT hZ0 (wq hw 1 rfl)) (mvT hZ0 (wq hw 2 rfl)) (mvT hZ0 (wq hw 3 rfl)) (mvT hZ0 (wq hw 4 rfl)) (by decide) (backOf (W := 0) (rc21_make l Z a0 hw [] cs hS c1 c2 c3 h0 n0 O0 hC1 hg1) hZ0 (wq hw 4 rfl) (wq hw 3 rfl) (by decide) (by decide)) (g := (mkF m 63 #[.val (.int p0), .val (.int p1), .val (.int p2), .val (.int p3), .val (.int (p0 &&& (7 : Int32))), .val (.int (0 : Int32)), .val (.int (1 : Int32)), .val (.int c1), .val (.int c2), .val (.int c3), .unset, .unset] [(.int c3), (.int c2), (.int c1), (.int (1 : Int32))])) rfl (by rw [hml]; rfl) (argsL := [(.int (1 : Int32)), (.int c1), (.int c2), (.int c3)]) (rest := []) (lenOf pd_3 rfl) rfl (by show 2 * 0 + _ ≤ _; exact Nat.le_of_eq rfl) (hb hby at_63) (fun _ _ => ⟨rfl, e0, (by decide : 0 + 3 ≤ _), (by decide : 0 + 6 ≤ _)⟩)
          dsimp only [Pt.U, Pt.locs, Pt.cells, Pt.slots] at X42 l42 y42 z42 st42 hQ42
          have X42 := own_to X42 l42 y42 z42
          obtain ⟨x42_b1, x42_x24_x2_x3_b1, x42_x24_x2_x3_k1, rfl, N42q, K42, sz42_b1, sz42_x24_x2_x3_b1, q42_0, q42_1, q42_2, q42_3⟩ := hQ42
          have N42 := Fr.app N0 N42q
          have g43 : n0 ≤ x42_b1 := Nat.le_trans (Nat.le_of_eq O0.1.symm) (Nat.le_trans O0.2.1 sz42_b1)
          have s44 : h0.size ≤ x42_b1 := Nat.le_trans (Keep.refl h0 []).1 sz42_b1
          have g45 : n0 ≤ x42_x24_x2_x3_b1 := Nat.le_trans (Nat.le_of_eq O0.1.symm) (Nat.le_trans O0.2.1 sz42_x24_x2_x3_b1)
          have s46 : h0.size ≤ x42_x24_x2_x3_b1 := Nat.le_trans (Keep.refl h0 []).1 sz42_x24_x2_x3_b1
          have O47 : Old Z n0 T42.heap := Old.keep O0 K42 all0
          have K48 : Keep h0 T42.heap [] := (Keep.refl h0 []).trans K42 all0
          have hk49 := Nat.le_trans hk0 K42.1
          obtain ⟨_, _, ⟨T50, L50, k50, n50⟩, -, X50, hSi50, hge50, ⟨Lc50, hQ50, l50, y50, z50⟩, st50⟩ := callSS X42 hx (y := my_0) hown0 (mvT hZ0 (wq hw 27 rfl)) (mvT hZ0 (wq hw 28 rfl)) (mvT hZ0 (wq hw 29 rfl)) (mvT hZ0 (wq hw 30 rfl)) (by decide) (own_backCH (W := 0) (rc31_traceAsked l Z a0 hw [] cs hS x42_b1 x42_x24_x2_x3_b1 x42_x24_x2_x3_k1 (nar .byte (c1.toInt8.toInt32)) T42.heap n0 O47 g43 g45 q42_0 q42_1 q42_2 q42_3 (own_b48n hC1 hg1 h48)) hZ0 (wq hw 30 rfl) (wq hw 29 rfl) (by decide) (by decide) (own_EL hw) (own_CHx K48 hCH.1 s44 q42_0.lt)) (g := (mkF m 114 #[.val (.int p0), .val (.int p1), .val (.int p2), .val (.int p3), .val (.int (p0 &&& (7 : Int32))), .val (.int (0 : Int32)), .val (.int (1 : Int32)), .val (.int c1), .val (.int c2), .val (.int c3), .val (.ref x42_b1), .val (.int (1 : Int32))] [(.ref x42_b1)])) rfl (by rw [hml]; rfl) (argsL := [(.ref x42_b1)]) (rest := []) (lenOf pd_0 rfl) rfl (by show 2 * 0 + _ ≤ _; exact Nat.le_of_eq rfl) (hb hby at_114) (fun _ _ => ⟨rfl, rfl, (by decide : 3 + 2 ≤ _), (by decide : 6 + 8 ≤ _)⟩)
          dsimp only [Pt.U, Pt.locs, Pt.cells, Pt.slots] at X50 l50 y50 z50 st50 hQ50 hSi50 hge50
          have X50 := own_to X50 l50 y50 z50
          obtain ⟨X50r, hS50, hZ50, hown50⟩ := rebS hS0 hk49 X50 hSi50 hge50 hZ0 hown0
          obtain ⟨rfl, N50q, K50⟩ := hQ50
          have N50 := Fr.app N42 N50q
          have O51 : Old Z n0 T50.heap := Old.keep O47 K50 all0
          have K52 : Keep h0 T50.heap [] := K48.trans K50 all0
          obtain ⟨fs, hr, hrun, hended, hEW⟩ := Jvm.Stand.leaveW X50r hS50 (Nat.le_refl _) (v := (some (.int (1 : Int32)))) (fun h => by rw [Bd.returns] at h; cases h)
          refine ⟨_, _, gp19 _ ?_, hrun, hended, _, _, rfl, ?_, ⟨_, rfl⟩, hEW.2.1, hEW.2.2.1, hEW.2.2.2.mono (by decide) (by decide)⟩
          · refine XS.iload X0.here hx rfl (hb hby at_55) rfl ?_
            refine XS.iload X0.here hx rfl (hb hby at_57) rfl ?_
            refine XS.iload X0.here hx rfl (hb hby at_59) rfl ?_
            refine XS.iload X0.here hx rfl (hb hby at_61) rfl ?_
            refine st42 _ ?_
            refine XS.astore X42.here hx rfl (hb hby at_66) rfl rfl (l' := #[.val (.int p0), .val (.int p1), .val (.int p2), .val (.int p3), .val (.int (p0 &&& (7 : Int32))), .val (.int (0 : Int32)), .val (.int (1 : Int32)), .val (.int c1), .val (.int c2), .val (.int c3), .val (.ref x42_b1), .unset]) rfl ?_
            refine XS.iload X42.here hx rfl (hb hby at_68) rfl ?_
            refine XS.ifYes X42.here hx rfl (pc0 := 70) (pc' := 79) rfl (hb hby at_70) rfl ((if0 _ _).trans (teq (by decide : (0 : Int32) = (0 : Int32))).1) (by decide) (by decide) ?_
            refine XS.iload X42.here hx rfl (hb hby at_79) rfl ?_
            refine XS.ifYes X42.here hx rfl (pc0 := 81) (pc' := 90) rfl (hb hby at_81) rfl ((if0 _ _).trans (feq (by decide : ¬ ((1 : Int32) = (0 : Int32)))).2) (by decide) (by decide) ?_
            refine XS.iload X42.here hx rfl (hb hby at_90) rfl ?_
            refine XS.iconst X42.here hx rfl (hb hby at_92) ?_
            refine XS.icmpNo X42.here hx rfl (hb hby at_93) rfl (teq (by decide : (1 : Int32) = (1 : Int32))).2 ?_
            refine XS.iload X42.here hx rfl (hb hby at_96) rfl ?_
            refine XS.bipush X42.here hx rfl (hb hby at_98) ?_
            refine XS.icmpYes X42.here hx rfl (pc0 := 100) (pc' := 109) rfl (hb hby at_100) rfl (feq h48).2 (by decide) (by decide) ?_
            refine XS.iconst X42.here hx rfl (hb hby at_109) ?_
            refine XS.istore X42.here hx rfl (hb hby at_110) rfl (l' := #[.val (.int p0), .val (.int p1), .val (.int p2), .val (.int p3), .val (.int (p0 &&& (7 : Int32))), .val (.int (0 : Int32)), .val (.int (1 : Int32)), .val (.int c1), .val (.int c2), .val (.int c3), .val (.ref x42_b1), .val (.int (1 : Int32))]) rfl ?_
            refine XS.aload X42.here hx rfl (hb hby at_112) rfl rfl ?_
            refine st50.trans ?_
            refine XS.iload X50r.here hx rfl (hb hby at_117) rfl ?_
            refine XS.icmpNo X50r.here hx rfl (hb hby at_119) rfl (teq (by decide : (1 : Int32) = (1 : Int32))).2 ?_
            refine XS.iconst X50r.here hx rfl (hb hby at_122) ?_
            refine XS.goto X50r.here hx rfl (pc0 := 123) (pc' := 127) rfl (hb hby at_123) (by decide) (by decide) ?_
            exact retN X50r hx (t := .boolean) Bd.returns (by simp) (hb hby at_127) hr
          · show Q0 n0 _ T50.heap _
            exact ⟨rfl, N50⟩
    · have gp53 := gp11
      rw [hk] at gp53
      by_cases hg1 : (255 : Int32) < c1
      · have _ := hg1
        obtain ⟨_, _, ⟨T54, L54, k54, n54⟩, -, X54, ⟨Lc54, hQ54, l54, y54, z54⟩, st54⟩ := Jvm.LawKit.callS X0 hx (y := my_3) hown0 (mvT hZ0 (wq hw 1 rfl)) (mvT hZ0 (wq hw 2 rfl)) (mvT hZ0 (wq hw 3 rfl)) (mvT hZ0 (wq hw 4 rfl)) (by decide) (backOf (W := 0) (rc34_make l Z a0 hw [] cs hS c1 c2 c3 h0 n0 O0 hC1 hC2 hg1) hZ0 (wq hw 4 rfl) (wq hw 3 rfl) (by decide) (by decide)) (g := (mkF m 63 #[.val (.int p0), .val (.int p1), .val (.int p2), .val (.int p3), .val (.int (p0 &&& (7 : Int32))), .val (.int (0 : Int32)), .val (.int (2 : Int32)), .val (.int c1), .val (.int c2), .val (.int c3), .unset, .unset] [(.int c3), (.int c2), (.int c1), (.int (2 : Int32))])) rfl (by rw [hml]; rfl) (argsL := [(.int (2 : Int32)), (.int c1), (.int c2), (.int c3)]) (rest := []) (lenOf pd_3 rfl) rfl (by show 2 * 0 + _ ≤ _; exact Nat.le_of_eq rfl) (hb hby at_63) (fun _ _ => ⟨rfl, e0, (by decide : 0 + 4 ≤ _), (by decide : 0 + 12 ≤ _)⟩)
        dsimp only [Pt.U, Pt.locs, Pt.cells, Pt.slots] at X54 l54 y54 z54 st54 hQ54
        have X54 := own_to X54 l54 y54 z54
        obtain ⟨x54_b1, x54_x30_x2_x3_x10_x1_b2, x54_x30_x2_x3_x10_x1_k2, rfl, N54q, K54, sz54_b1, sz54_x30_x2_x3_x10_x1_b2, q54_0, q54_1, q54_2, q54_3⟩ := hQ54
        have N54 := Fr.app N0 N54q
        have g55 : n0 ≤ x54_b1 := Nat.le_trans (Nat.le_of_eq O0.1.symm) (Nat.le_trans O0.2.1 sz54_b1)
        have s56 : h0.size ≤ x54_b1 := Nat.le_trans (Keep.refl h0 []).1 sz54_b1
        have g57 : n0 ≤ x54_x30_x2_x3_x10_x1_b2 := Nat.le_trans (Nat.le_of_eq O0.1.symm) (Nat.le_trans O0.2.1 sz54_x30_x2_x3_x10_x1_b2)
        have s58 : h0.size ≤ x54_x30_x2_x3_x10_x1_b2 := Nat.le_trans (Keep.refl h0 []).1 sz54_x30_x2_x3_x10_x1_b2
        have O59 : Old Z n0 T54.heap := Old.keep O0 K54 all0
        have K60 : Keep h0 T54.heap [] := (Keep.refl h0 []).trans K54 all0
        have hk61 := Nat.le_trans hk0 K54.1
        obtain ⟨_, _, ⟨T62, L62, k62, n62⟩, -, X62, hSi62, hge62, ⟨Lc62, hQ62, l62, y62, z62⟩, st62⟩ := callSS X54 hx (y := my_0) hown0 (mvT hZ0 (wq hw 27 rfl)) (mvT hZ0 (wq hw 28 rfl)) (mvT hZ0 (wq hw 29 rfl)) (mvT hZ0 (wq hw 30 rfl)) (by decide) (own_backCH (W := 0) (rc46_traceAsked l Z a0 hw [] cs hS x54_b1 x54_x30_x2_x3_x10_x1_b2 x54_x30_x2_x3_x10_x1_k2 (nar .byte ((c1 >>> ((0 : Int32) &&& 31)).toInt8.toInt32)) (nar .byte ((c1 >>> ((8 : Int32) &&& 31)).toInt8.toInt32)) (nar .byte ((c2 >>> ((0 : Int32) &&& 31)).toInt8.toInt32)) (nar .byte ((c2 >>> ((8 : Int32) &&& 31)).toInt8.toInt32)) T54.heap n0 O59 g55 g57 q54_0 q54_1 q54_2 q54_3) hZ0 (wq hw 30 rfl) (wq hw 29 rfl) (by decide) (by decide) (own_EL hw) (own_CHx K60 hCH.1 s56 q54_0.lt)) (g := (mkF m 114 #[.val (.int p0), .val (.int p1), .val (.int p2), .val (.int p3), .val (.int (p0 &&& (7 : Int32))), .val (.int (0 : Int32)), .val (.int (2 : Int32)), .val (.int c1), .val (.int c2), .val (.int c3), .val (.ref x54_b1), .val (.int (1 : Int32))] [(.ref x54_b1)])) rfl (by rw [hml]; rfl) (argsL := [(.ref x54_b1)]) (rest := []) (lenOf pd_0 rfl) rfl (by show 2 * 0 + _ ≤ _; exact Nat.le_of_eq rfl) (hb hby at_114) (fun _ _ => ⟨rfl, rfl, (by decide : 4 + 2 ≤ _), (by decide : 12 + 8 ≤ _)⟩)
        dsimp only [Pt.U, Pt.locs, Pt.cells, Pt.slots] at X62 l62 y62 z62 st62 hQ62 hSi62 hge62
        have X62 := own_to X62 l62 y62 z62
        obtain ⟨X62r, hS62, hZ62, hown62⟩ := rebS hS0 hk61 X62 hSi62 hge62 hZ0 hown0
        obtain ⟨rfl, N62q, K62⟩ := hQ62
        have N62 := Fr.app N54 N62q
        have O63 : Old Z n0 T62.heap := Old.keep O59 K62 all0
        have K64 : Keep h0 T62.heap [] := K60.trans K62 all0
        obtain ⟨fs, hr, hrun, hended, hEW⟩ := Jvm.Stand.leaveW X62r hS62 (Nat.le_refl _) (v := (some (.int (1 : Int32)))) (fun h => by rw [Bd.returns] at h; cases h)
        refine ⟨_, _, gp53 _ ?_, hrun, hended, _, _, rfl, ?_, ⟨_, rfl⟩, hEW.2.1, hEW.2.2.1, hEW.2.2.2.mono (by decide) (by decide)⟩
        · refine XS.iload X0.here hx rfl (hb hby at_55) rfl ?_
          refine XS.iload X0.here hx rfl (hb hby at_57) rfl ?_
          refine XS.iload X0.here hx rfl (hb hby at_59) rfl ?_
          refine XS.iload X0.here hx rfl (hb hby at_61) rfl ?_
          refine st54 _ ?_
          refine XS.astore X54.here hx rfl (hb hby at_66) rfl rfl (l' := #[.val (.int p0), .val (.int p1), .val (.int p2), .val (.int p3), .val (.int (p0 &&& (7 : Int32))), .val (.int (0 : Int32)), .val (.int (2 : Int32)), .val (.int c1), .val (.int c2), .val (.int c3), .val (.ref x54_b1), .unset]) rfl ?_
          refine XS.iload X54.here hx rfl (hb hby at_68) rfl ?_
          refine XS.ifYes X54.here hx rfl (pc0 := 70) (pc' := 79) rfl (hb hby at_70) rfl ((if0 _ _).trans (teq (by decide : (0 : Int32) = (0 : Int32))).1) (by decide) (by decide) ?_
          refine XS.iload X54.here hx rfl (hb hby at_79) rfl ?_
          refine XS.ifYes X54.here hx rfl (pc0 := 81) (pc' := 90) rfl (hb hby at_81) rfl ((if0 _ _).trans (feq (by decide : ¬ ((2 : Int32) = (0 : Int32)))).2) (by decide) (by decide) ?_
          refine XS.iload X54.here hx rfl (hb hby at_90) rfl ?_
          refine XS.iconst X54.here hx rfl (hb hby at_92) ?_
          refine XS.icmpYes X54.here hx rfl (pc0 := 93) (pc' := 109) rfl (hb hby at_93) rfl (feq (by decide : ¬ ((2 : Int32) = (1 : Int32)))).2 (by decide) (by decide) ?_
          refine XS.iconst X54.here hx rfl (hb hby at_109) ?_
          refine XS.istore X54.here hx rfl (hb hby at_110) rfl (l' := #[.val (.int p0), .val (.int p1), .val (.int p2), .val (.int p3), .val (.int (p0 &&& (7 : Int32))), .val (.int (0 : Int32)), .val (.int (2 : Int32)), .val (.int c1), .val (.int c2), .val (.int c3), .val (.ref x54_b1), .val (.int (1 : Int32))]) rfl ?_
          refine XS.aload X54.here hx rfl (hb hby at_112) rfl rfl ?_
          refine st62.trans ?_
          refine XS.iload X62r.here hx rfl (hb hby at_117) rfl ?_
          refine XS.icmpNo X62r.here hx rfl (hb hby at_119) rfl (teq (by decide : (1 : Int32) = (1 : Int32))).2 ?_
          refine XS.iconst X62r.here hx rfl (hb hby at_122) ?_
          refine XS.goto X62r.here hx rfl (pc0 := 123) (pc' := 127) rfl (hb hby at_123) (by decide) (by decide) ?_
          exact retN X62r hx (t := .boolean) Bd.returns (by simp) (hb hby at_127) hr
        · show Q0 n0 _ T62.heap _
          exact ⟨rfl, N62⟩
      · have _ := hg1
        by_cases hg2 : (255 : Int32) < c2
        · have _ := hg2
          obtain ⟨_, _, ⟨T65, L65, k65, n65⟩, -, X65, ⟨Lc65, hQ65, l65, y65, z65⟩, st65⟩ := Jvm.LawKit.callS X0 hx (y := my_3) hown0 (mvT hZ0 (wq hw 1 rfl)) (mvT hZ0 (wq hw 2 rfl)) (mvT hZ0 (wq hw 3 rfl)) (mvT hZ0 (wq hw 4 rfl)) (by decide) (backOf (W := 0) (rc48_make l Z a0 hw [] cs hS c1 c2 c3 h0 n0 O0 hC1 hC2 hg1 hg2) hZ0 (wq hw 4 rfl) (wq hw 3 rfl) (by decide) (by decide)) (g := (mkF m 63 #[.val (.int p0), .val (.int p1), .val (.int p2), .val (.int p3), .val (.int (p0 &&& (7 : Int32))), .val (.int (0 : Int32)), .val (.int (2 : Int32)), .val (.int c1), .val (.int c2), .val (.int c3), .unset, .unset] [(.int c3), (.int c2), (.int c1), (.int (2 : Int32))])) rfl (by rw [hml]; rfl) (argsL := [(.int (2 : Int32)), (.int c1), (.int c2), (.int c3)]) (rest := []) (lenOf pd_3 rfl) rfl (by show 2 * 0 + _ ≤ _; exact Nat.le_of_eq rfl) (hb hby at_63) (fun _ _ => ⟨rfl, e0, (by decide : 0 + 4 ≤ _), (by decide : 0 + 12 ≤ _)⟩)
          dsimp only [Pt.U, Pt.locs, Pt.cells, Pt.slots] at X65 l65 y65 z65 st65 hQ65
          have X65 := own_to X65 l65 y65 z65
          obtain ⟨x65_b1, x65_x30_x2_x3_x13_x1_b2, x65_x30_x2_x3_x13_x1_k2, rfl, N65q, K65, sz65_b1, sz65_x30_x2_x3_x13_x1_b2, q65_0, q65_1, q65_2, q65_3⟩ := hQ65
          have N65 := Fr.app N0 N65q
          have g66 : n0 ≤ x65_b1 := Nat.le_trans (Nat.le_of_eq O0.1.symm) (Nat.le_trans O0.2.1 sz65_b1)
          have s67 : h0.size ≤ x65_b1 := Nat.le_trans (Keep.refl h0 []).1 sz65_b1
          have g68 : n0 ≤ x65_x30_x2_x3_x13_x1_b2 := Nat.le_trans (Nat.le_of_eq O0.1.symm) (Nat.le_trans O0.2.1 sz65_x30_x2_x3_x13_x1_b2)
          have s69 : h0.size ≤ x65_x30_x2_x3_x13_x1_b2 := Nat.le_trans (Keep.refl h0 []).1 sz65_x30_x2_x3_x13_x1_b2
          have O70 : Old Z n0 T65.heap := Old.keep O0 K65 all0
          have K71 : Keep h0 T65.heap [] := (Keep.refl h0 []).trans K65 all0
          have hk72 := Nat.le_trans hk0 K65.1
          obtain ⟨_, _, ⟨T73, L73, k73, n73⟩, -, X73, hSi73, hge73, ⟨Lc73, hQ73, l73, y73, z73⟩, st73⟩ := callSS X65 hx (y := my_0) hown0 (mvT hZ0 (wq hw 27 rfl)) (mvT hZ0 (wq hw 28 rfl)) (mvT hZ0 (wq hw 29 rfl)) (mvT hZ0 (wq hw 30 rfl)) (by decide) (own_backCH (W := 0) (rc46_traceAsked l Z a0 hw [] cs hS x65_b1 x65_x30_x2_x3_x13_x1_b2 x65_x30_x2_x3_x13_x1_k2 (nar .byte ((c1 >>> ((0 : Int32) &&& 31)).toInt8.toInt32)) (nar .byte ((c1 >>> ((8 : Int32) &&& 31)).toInt8.toInt32)) (nar .byte ((c2 >>> ((0 : Int32) &&& 31)).toInt8.toInt32)) (nar .byte ((c2 >>> ((8 : Int32) &&& 31)).toInt8.toInt32)) T65.heap n0 O70 g66 g68 q65_0 q65_1 q65_2 q65_3) hZ0 (wq hw 30 rfl) (wq hw 29 rfl) (by decide) (by decide) (own_EL hw) (own_CHx K71 hCH.1 s67 q65_0.lt)) (g := (mkF m 114 #[.val (.int p0), .val (.int p1), .val (.int p2), .val (.int p3), .val (.int (p0 &&& (7 : Int32))), .val (.int (0 : Int32)), .val (.int (2 : Int32)), .val (.int c1), .val (.int c2), .val (.int c3), .val (.ref x65_b1), .val (.int (1 : Int32))] [(.ref x65_b1)])) rfl (by rw [hml]; rfl) (argsL := [(.ref x65_b1)]) (rest := []) (lenOf pd_0 rfl) rfl (by show 2 * 0 + _ ≤ _; exact Nat.le_of_eq rfl) (hb hby at_114) (fun _ _ => ⟨rfl, rfl, (by decide : 4 + 2 ≤ _), (by decide : 12 + 8 ≤ _)⟩)
          dsimp only [Pt.U, Pt.locs, Pt.cells, Pt.slots] at X73 l73 y73 z73 st73 hQ73 hSi73 hge73
          have X73 := own_to X73 l73 y73 z73
          obtain ⟨X73r, hS73, hZ73, hown73⟩ := rebS hS0 hk72 X73 hSi73 hge73 hZ0 hown0
          obtain ⟨rfl, N73q, K73⟩ := hQ73
          have N73 := Fr.app N65 N73q
          have O74 : Old Z n0 T73.heap := Old.keep O70 K73 all0
          have K75 : Keep h0 T73.heap [] := K71.trans K73 all0
          obtain ⟨fs, hr, hrun, hended, hEW⟩ := Jvm.Stand.leaveW X73r hS73 (Nat.le_refl _) (v := (some (.int (1 : Int32)))) (fun h => by rw [Bd.returns] at h; cases h)
          refine ⟨_, _, gp53 _ ?_, hrun, hended, _, _, rfl, ?_, ⟨_, rfl⟩, hEW.2.1, hEW.2.2.1, hEW.2.2.2.mono (by decide) (by decide)⟩
          · refine XS.iload X0.here hx rfl (hb hby at_55) rfl ?_
            refine XS.iload X0.here hx rfl (hb hby at_57) rfl ?_
            refine XS.iload X0.here hx rfl (hb hby at_59) rfl ?_
            refine XS.iload X0.here hx rfl (hb hby at_61) rfl ?_
            refine st65 _ ?_
            refine XS.astore X65.here hx rfl (hb hby at_66) rfl rfl (l' := #[.val (.int p0), .val (.int p1), .val (.int p2), .val (.int p3), .val (.int (p0 &&& (7 : Int32))), .val (.int (0 : Int32)), .val (.int (2 : Int32)), .val (.int c1), .val (.int c2), .val (.int c3), .val (.ref x65_b1), .unset]) rfl ?_
            refine XS.iload X65.here hx rfl (hb hby at_68) rfl ?_
            refine XS.ifYes X65.here hx rfl (pc0 := 70) (pc' := 79) rfl (hb hby at_70) rfl ((if0 _ _).trans (teq (by decide : (0 : Int32) = (0 : Int32))).1) (by decide) (by decide) ?_
            refine XS.iload X65.here hx rfl (hb hby at_79) rfl ?_
            refine XS.ifYes X65.here hx rfl (pc0 := 81) (pc' := 90) rfl (hb hby at_81) rfl ((if0 _ _).trans (feq (by decide : ¬ ((2 : Int32) = (0 : Int32)))).2) (by decide) (by decide) ?_
            refine XS.iload X65.here hx rfl (hb hby at_90) rfl ?_
            refine XS.iconst X65.here hx rfl (hb hby at_92) ?_
            refine XS.icmpYes X65.here hx rfl (pc0 := 93) (pc' := 109) rfl (hb hby at_93) rfl (feq (by decide : ¬ ((2 : Int32) = (1 : Int32)))).2 (by decide) (by decide) ?_
            refine XS.iconst X65.here hx rfl (hb hby at_109) ?_
            refine XS.istore X65.here hx rfl (hb hby at_110) rfl (l' := #[.val (.int p0), .val (.int p1), .val (.int p2), .val (.int p3), .val (.int (p0 &&& (7 : Int32))), .val (.int (0 : Int32)), .val (.int (2 : Int32)), .val (.int c1), .val (.int c2), .val (.int c3), .val (.ref x65_b1), .val (.int (1 : Int32))]) rfl ?_
            refine XS.aload X65.here hx rfl (hb hby at_112) rfl rfl ?_
            refine st73.trans ?_
            refine XS.iload X73r.here hx rfl (hb hby at_117) rfl ?_
            refine XS.icmpNo X73r.here hx rfl (hb hby at_119) rfl (teq (by decide : (1 : Int32) = (1 : Int32))).2 ?_
            refine XS.iconst X73r.here hx rfl (hb hby at_122) ?_
            refine XS.goto X73r.here hx rfl (pc0 := 123) (pc' := 127) rfl (hb hby at_123) (by decide) (by decide) ?_
            exact retN X73r hx (t := .boolean) Bd.returns (by simp) (hb hby at_127) hr
          · show Q0 n0 _ T73.heap _
            exact ⟨rfl, N73⟩
        · have _ := hg2
          obtain ⟨_, _, ⟨T76, L76, k76, n76⟩, -, X76, ⟨Lc76, hQ76, l76, y76, z76⟩, st76⟩ := Jvm.LawKit.callS X0 hx (y := my_3) hown0 (mvT hZ0 (wq hw 1 rfl)) (mvT hZ0 (wq hw 2 rfl)) (mvT hZ0 (wq hw 3 rfl)) (mvT hZ0 (wq hw 4 rfl)) (by decide) (backOf (W := 0) (rc54_make l Z a0 hw [] cs hS c1 c2 c3 h0 n0 O0 hC1 hC2 hg1 hg2) hZ0 (wq hw 4 rfl) (wq hw 3 rfl) (by decide) (by decide)) (g := (mkF m 63 #[.val (.int p0), .val (.int p1), .val (.int p2), .val (.int p3), .val (.int (p0 &&& (7 : Int32))), .val (.int (0 : Int32)), .val (.int (2 : Int32)), .val (.int c1), .val (.int c2), .val (.int c3), .unset, .unset] [(.int c3), (.int c2), (.int c1), (.int (2 : Int32))])) rfl (by rw [hml]; rfl) (argsL := [(.int (2 : Int32)), (.int c1), (.int c2), (.int c3)]) (rest := []) (lenOf pd_3 rfl) rfl (by show 2 * 0 + _ ≤ _; exact Nat.le_of_eq rfl) (hb hby at_63) (fun _ _ => ⟨rfl, e0, (by decide : 0 + 3 ≤ _), (by decide : 0 + 8 ≤ _)⟩)
          dsimp only [Pt.U, Pt.locs, Pt.cells, Pt.slots] at X76 l76 y76 z76 st76 hQ76
          have X76 := own_to X76 l76 y76 z76
          obtain ⟨x76_b1, x76_x30_x2_x3_b1, x76_x30_x2_x3_k1, rfl, N76q, K76, sz76_b1, sz76_x30_x2_x3_b1, q76_0, q76_1, q76_2, q76_3⟩ := hQ76
          have N76 := Fr.app N0 N76q
          have g77 : n0 ≤ x76_b1 := Nat.le_trans (Nat.le_of_eq O0.1.symm) (Nat.le_trans O0.2.1 sz76_b1)
          have s78 : h0.size ≤ x76_b1 := Nat.le_trans (Keep.refl h0 []).1 sz76_b1
          have g79 : n0 ≤ x76_x30_x2_x3_b1 := Nat.le_trans (Nat.le_of_eq O0.1.symm) (Nat.le_trans O0.2.1 sz76_x30_x2_x3_b1)
          have s80 : h0.size ≤ x76_x30_x2_x3_b1 := Nat.le_trans (Keep.refl h0 []).1 sz76_x30_x2_x3_b1
          have O81 : Old Z n0 T76.heap := Old.keep O0 K76 all0
          have K82 : Keep h0 T76.heap [] := (Keep.refl h0 []).trans K76 all0
          have hk83 := Nat.le_trans hk0 K76.1
          obtain ⟨_, _, ⟨T84, L84, k84, n84⟩, -, X84, hSi84, hge84, ⟨Lc84, hQ84, l84, y84, z84⟩, st84⟩ := callSS X76 hx (y := my_0) hown0 (mvT hZ0 (wq hw 27 rfl)) (mvT hZ0 (wq hw 28 rfl)) (mvT hZ0 (wq hw 29 rfl)) (mvT hZ0 (wq hw 30 rfl)) (by decide) (own_backCH (W := 0) (rc60_traceAsked l Z a0 hw [] cs hS x76_b1 x76_x30_x2_x3_b1 x76_x30_x2_x3_k1 (nar .byte (c1.toInt8.toInt32)) (nar .byte (c2.toInt8.toInt32)) T76.heap n0 O81 g77 g79 q76_0 q76_1 q76_2 q76_3) hZ0 (wq hw 30 rfl) (wq hw 29 rfl) (by decide) (by decide) (own_EL hw) (own_CHx K82 hCH.1 s78 q76_0.lt)) (g := (mkF m 114 #[.val (.int p0), .val (.int p1), .val (.int p2), .val (.int p3), .val (.int (p0 &&& (7 : Int32))), .val (.int (0 : Int32)), .val (.int (2 : Int32)), .val (.int c1), .val (.int c2), .val (.int c3), .val (.ref x76_b1), .val (.int (1 : Int32))] [(.ref x76_b1)])) rfl (by rw [hml]; rfl) (argsL := [(.ref x76_b1)]) (rest := []) (lenOf pd_0 rfl) rfl (by show 2 * 0 + _ ≤ _; exact Nat.le_of_eq rfl) (hb hby at_114) (fun _ _ => ⟨rfl, rfl, (by decide : 3 + 2 ≤ _), (by decide : 8 + 8 ≤ _)⟩)
          dsimp only [Pt.U, Pt.locs, Pt.cells, Pt.slots] at X84 l84 y84 z84 st84 hQ84 hSi84 hge84
          have X84 := own_to X84 l84 y84 z84
          obtain ⟨X84r, hS84, hZ84, hown84⟩ := rebS hS0 hk83 X84 hSi84 hge84 hZ0 hown0
          obtain ⟨rfl, N84q, K84⟩ := hQ84
          have N84 := Fr.app N76 N84q
          have O85 : Old Z n0 T84.heap := Old.keep O81 K84 all0
          have K86 : Keep h0 T84.heap [] := K82.trans K84 all0
          obtain ⟨fs, hr, hrun, hended, hEW⟩ := Jvm.Stand.leaveW X84r hS84 (Nat.le_refl _) (v := (some (.int (1 : Int32)))) (fun h => by rw [Bd.returns] at h; cases h)
          refine ⟨_, _, gp53 _ ?_, hrun, hended, _, _, rfl, ?_, ⟨_, rfl⟩, hEW.2.1, hEW.2.2.1, hEW.2.2.2.mono (by decide) (by decide)⟩
          · refine XS.iload X0.here hx rfl (hb hby at_55) rfl ?_
            refine XS.iload X0.here hx rfl (hb hby at_57) rfl ?_
            refine XS.iload X0.here hx rfl (hb hby at_59) rfl ?_
            refine XS.iload X0.here hx rfl (hb hby at_61) rfl ?_
            refine st76 _ ?_
            refine XS.astore X76.here hx rfl (hb hby at_66) rfl rfl (l' := #[.val (.int p0), .val (.int p1), .val (.int p2), .val (.int p3), .val (.int (p0 &&& (7 : Int32))), .val (.int (0 : Int32)), .val (.int (2 : Int32)), .val (.int c1), .val (.int c2), .val (.int c3), .val (.ref x76_b1), .unset]) rfl ?_
            refine XS.iload X76.here hx rfl (hb hby at_68) rfl ?_
            refine XS.ifYes X76.here hx rfl (pc0 := 70) (pc' := 79) rfl (hb hby at_70) rfl ((if0 _ _).trans (teq (by decide : (0 : Int32) = (0 : Int32))).1) (by decide) (by decide) ?_
            refine XS.iload X76.here hx rfl (hb hby at_79) rfl ?_
            refine XS.ifYes X76.here hx rfl (pc0 := 81) (pc' := 90) rfl (hb hby at_81) rfl ((if0 _ _).trans (feq (by decide : ¬ ((2 : Int32) = (0 : Int32)))).2) (by decide) (by decide) ?_
            refine XS.iload X76.here hx rfl (hb hby at_90) rfl ?_
            refine XS.iconst X76.here hx rfl (hb hby at_92) ?_
            refine XS.icmpYes X76.here hx rfl (pc0 := 93) (pc' := 109) rfl (hb hby at_93) rfl (feq (by decide : ¬ ((2 : Int32) = (1 : Int32)))).2 (by decide) (by decide) ?_
            refine XS.iconst X76.here hx rfl (hb hby at_109) ?_
            refine XS.istore X76.here hx rfl (hb hby at_110) rfl (l' := #[.val (.int p0), .val (.int p1), .val (.int p2), .val (.int p3), .val (.int (p0 &&& (7 : Int32))), .val (.int (0 : Int32)), .val (.int (2 : Int32)), .val (.int c1), .val (.int c2), .val (.int c3), .val (.ref x76_b1), .val (.int (1 : Int32))]) rfl ?_
            refine XS.aload X76.here hx rfl (hb hby at_112) rfl rfl ?_
            refine st84.trans ?_
            refine XS.iload X84r.here hx rfl (hb hby at_117) rfl ?_
            refine XS.icmpNo X84r.here hx rfl (hb hby at_119) rfl (teq (by decide : (1 : Int32) = (1 : Int32))).2 ?_
            refine XS.iconst X84r.here hx rfl (hb hby at_122) ?_
            refine XS.goto X84r.here hx rfl (pc0 := 123) (pc' := 127) rfl (hb hby at_123) (by decide) (by decide) ?_
            exact retN X84r hx (t := .boolean) Bd.returns (by simp) (hb hby at_127) hr
          · show Q0 n0 _ T84.heap _
            exact ⟨rfl, N84⟩
    · have gp87 := gp11
      rw [hk] at gp87
      by_cases hg1 : (255 : Int32) < c1
      · have _ := hg1
        obtain ⟨_, _, ⟨T88, L88, k88, n88⟩, -, X88, ⟨Lc88, hQ88, l88, y88, z88⟩, st88⟩ := Jvm.LawKit.callS X0 hx (y := my_3) hown0 (mvT hZ0 (wq hw 1 rfl)) (mvT hZ0 (wq hw 2 rfl)) (mvT hZ0 (wq hw 3 rfl)) (mvT hZ0 (wq hw 4 rfl)) (by decide) (backOf (W := 0) (rc63_make l Z a0 hw [] cs hS c1 c2 c3 h0 n0 O0 hC1 hC2 hC3 hg1) hZ0 (wq hw 4 rfl) (wq hw 3 rfl) (by decide) (by decide)) (g := (mkF m 63 #[.val (.int p0), .val (.int p1), .val (.int p2), .val (.int p3), .val (.int (p0 &&& (7 : Int32))), .val (.int (0 : Int32)), .val (.int (3 : Int32)), .val (.int c1), .val (.int c2), .val (.int c3), .unset, .unset] [(.int c3), (.int c2), (.int c1), (.int (3 : Int32))])) rfl (by rw [hml]; rfl) (argsL := [(.int (3 : Int32)), (.int c1), (.int c2), (.int c3)]) (rest := []) (lenOf pd_3 rfl) rfl (by show 2 * 0 + _ ≤ _; exact Nat.le_of_eq rfl) (hb hby at_63) (fun _ _ => ⟨rfl, e0, (by decide : 0 + 4 ≤ _), (by decide : 0 + 16 ≤ _)⟩)
        dsimp only [Pt.U, Pt.locs, Pt.cells, Pt.slots] at X88 l88 y88 z88 st88 hQ88
        have X88 := own_to X88 l88 y88 z88
        obtain ⟨x88_b1, x88_x36_x2_x3_x10_x1_b2, x88_x36_x2_x3_x10_x1_k2, rfl, N88q, K88, sz88_b1, sz88_x36_x2_x3_x10_x1_b2, q88_0, q88_1, q88_2, q88_3⟩ := hQ88
        have N88 := Fr.app N0 N88q
        have g89 : n0 ≤ x88_b1 := Nat.le_trans (Nat.le_of_eq O0.1.symm) (Nat.le_trans O0.2.1 sz88_b1)
        have s90 : h0.size ≤ x88_b1 := Nat.le_trans (Keep.refl h0 []).1 sz88_b1
        have g91 : n0 ≤ x88_x36_x2_x3_x10_x1_b2 := Nat.le_trans (Nat.le_of_eq O0.1.symm) (Nat.le_trans O0.2.1 sz88_x36_x2_x3_x10_x1_b2)
        have s92 : h0.size ≤ x88_x36_x2_x3_x10_x1_b2 := Nat.le_trans (Keep.refl h0 []).1 sz88_x36_x2_x3_x10_x1_b2
        have O93 : Old Z n0 T88.heap := Old.keep O0 K88 all0
        have K94 : Keep h0 T88.heap [] := (Keep.refl h0 []).trans K88 all0
        have hk95 := Nat.le_trans hk0 K88.1
        obtain ⟨_, _, ⟨T96, L96, k96, n96⟩, -, X96, hSi96, hge96, ⟨Lc96, hQ96, l96, y96, z96⟩, st96⟩ := callSS X88 hx (y := my_0) hown0 (mvT hZ0 (wq hw 27 rfl)) (mvT hZ0 (wq hw 28 rfl)) (mvT hZ0 (wq hw 29 rfl)) (mvT hZ0 (wq hw 30 rfl)) (by decide) (own_backCH (W := 0) (rc76_traceAsked l Z a0 hw [] cs hS x88_b1 x88_x36_x2_x3_x10_x1_b2 x88_x36_x2_x3_x10_x1_k2 (nar .byte ((c1 >>> ((0 : Int32) &&& 31)).toInt8.toInt32)) (nar .byte ((c1 >>> ((8 : Int32) &&& 31)).toInt8.toInt32)) (nar .byte ((c2 >>> ((0 : Int32) &&& 31)).toInt8.toInt32)) (nar .byte ((c2 >>> ((8 : Int32) &&& 31)).toInt8.toInt32)) (nar .byte ((c3 >>> ((0 : Int32) &&& 31)).toInt8.toInt32)) (nar .byte ((c3 >>> ((8 : Int32) &&& 31)).toInt8.toInt32)) T88.heap n0 O93 g89 g91 q88_0 q88_1 q88_2 q88_3) hZ0 (wq hw 30 rfl) (wq hw 29 rfl) (by decide) (by decide) (own_EL hw) (own_CHx K94 hCH.1 s90 q88_0.lt)) (g := (mkF m 114 #[.val (.int p0), .val (.int p1), .val (.int p2), .val (.int p3), .val (.int (p0 &&& (7 : Int32))), .val (.int (0 : Int32)), .val (.int (3 : Int32)), .val (.int c1), .val (.int c2), .val (.int c3), .val (.ref x88_b1), .val (.int (1 : Int32))] [(.ref x88_b1)])) rfl (by rw [hml]; rfl) (argsL := [(.ref x88_b1)]) (rest := []) (lenOf pd_0 rfl) rfl (by show 2 * 0 + _ ≤ _; exact Nat.le_of_eq rfl) (hb hby at_114) (fun _ _ => ⟨rfl, rfl, (by decide : 4 + 2 ≤ _), (by decide : 16 + 8 ≤ _)⟩)
        dsimp only [Pt.U, Pt.locs, Pt.cells, Pt.slots] at X96 l96 y96 z96 st96 hQ96 hSi96 hge96
        have X96 := own_to X96 l96 y96 z96
        obtain ⟨X96r, hS96, hZ96, hown96⟩ := rebS hS0 hk95 X96 hSi96 hge96 hZ0 hown0
        obtain ⟨rfl, N96q, K96⟩ := hQ96
        have N96 := Fr.app N88 N96q
        have O97 : Old Z n0 T96.heap := Old.keep O93 K96 all0
        have K98 : Keep h0 T96.heap [] := K94.trans K96 all0
        obtain ⟨fs, hr, hrun, hended, hEW⟩ := Jvm.Stand.leaveW X96r hS96 (Nat.le_refl _) (v := (some (.int (1 : Int32)))) (fun h => by rw [Bd.returns] at h; cases h)
        refine ⟨_, _, gp87 _ ?_, hrun, hended, _, _, rfl, ?_, ⟨_, rfl⟩, hEW.2.1, hEW.2.2.1, hEW.2.2.2.mono (by decide) (by decide)⟩
        · refine XS.iload X0.here hx rfl (hb hby at_55) rfl ?_
          refine XS.iload X0.here hx rfl (hb hby at_57) rfl ?_
          refine XS.iload X0.here hx rfl (hb hby at_59) rfl ?_
          refine XS.iload X0.here hx rfl (hb hby at_61) rfl ?_
          refine st88 _ ?_
          refine XS.astore X88.here hx rfl (hb hby at_66) rfl rfl (l' := #[.val (.int p0), .val (.int p1), .val (.int p2), .val (.int p3), .val (.int (p0 &&& (7 : Int32))), .val (.int (0 : Int32)), .val (.int (3 : Int32)), .val (.int c1), .val (.int c2), .val (.int c3), .val (.ref x88_b1), .unset]) rfl ?_
          refine XS.iload X88.here hx rfl (hb hby at_68) rfl ?_
          refine XS.ifYes X88.here hx rfl (pc0 := 70) (pc' := 79) rfl (hb hby at_70) rfl ((if0 _ _).trans (teq (by decide : (0 : Int32) = (0 : Int32))).1) (by decide) (by decide) ?_
          refine XS.iload X88.here hx rfl (hb hby at_79) rfl ?_
          refine XS.ifYes X88.here hx rfl (pc0 := 81) (pc' := 90) rfl (hb hby at_81) rfl ((if0 _ _).trans (feq (by decide : ¬ ((3 : Int32) = (0 : Int32)))).2) (by decide) (by decide) ?_
          refine XS.iload X88.here hx rfl (hb hby at_90) rfl ?_
          refine XS.iconst X88.here hx rfl (hb hby at_92) ?_
          refine XS.icmpYes X88.here hx rfl (pc0 := 93) (pc' := 109) rfl (hb hby at_93) rfl (feq (by decide : ¬ ((3 : Int32) = (1 : Int32)))).2 (by decide) (by decide) ?_
          refine XS.iconst X88.here hx rfl (hb hby at_109) ?_
          refine XS.istore X88.here hx rfl (hb hby at_110) rfl (l' := #[.val (.int p0), .val (.int p1), .val (.int p2), .val (.int p3), .val (.int (p0 &&& (7 : Int32))), .val (.int (0 : Int32)), .val (.int (3 : Int32)), .val (.int c1), .val (.int c2), .val (.int c3), .val (.ref x88_b1), .val (.int (1 : Int32))]) rfl ?_
          refine XS.aload X88.here hx rfl (hb hby at_112) rfl rfl ?_
          refine st96.trans ?_
          refine XS.iload X96r.here hx rfl (hb hby at_117) rfl ?_
          refine XS.icmpNo X96r.here hx rfl (hb hby at_119) rfl (teq (by decide : (1 : Int32) = (1 : Int32))).2 ?_
          refine XS.iconst X96r.here hx rfl (hb hby at_122) ?_
          refine XS.goto X96r.here hx rfl (pc0 := 123) (pc' := 127) rfl (hb hby at_123) (by decide) (by decide) ?_
          exact retN X96r hx (t := .boolean) Bd.returns (by simp) (hb hby at_127) hr
        · show Q0 n0 _ T96.heap _
          exact ⟨rfl, N96⟩
      · have _ := hg1
        by_cases hg2 : (255 : Int32) < c2
        · have _ := hg2
          obtain ⟨_, _, ⟨T99, L99, k99, n99⟩, -, X99, ⟨Lc99, hQ99, l99, y99, z99⟩, st99⟩ := Jvm.LawKit.callS X0 hx (y := my_3) hown0 (mvT hZ0 (wq hw 1 rfl)) (mvT hZ0 (wq hw 2 rfl)) (mvT hZ0 (wq hw 3 rfl)) (mvT hZ0 (wq hw 4 rfl)) (by decide) (backOf (W := 0) (rc78_make l Z a0 hw [] cs hS c1 c2 c3 h0 n0 O0 hC1 hC2 hC3 hg1 hg2) hZ0 (wq hw 4 rfl) (wq hw 3 rfl) (by decide) (by decide)) (g := (mkF m 63 #[.val (.int p0), .val (.int p1), .val (.int p2), .val (.int p3), .val (.int (p0 &&& (7 : Int32))), .val (.int (0 : Int32)), .val (.int (3 : Int32)), .val (.int c1), .val (.int c2), .val (.int c3), .unset, .unset] [(.int c3), (.int c2), (.int c1), (.int (3 : Int32))])) rfl (by rw [hml]; rfl) (argsL := [(.int (3 : Int32)), (.int c1), (.int c2), (.int c3)]) (rest := []) (lenOf pd_3 rfl) rfl (by show 2 * 0 + _ ≤ _; exact Nat.le_of_eq rfl) (hb hby at_63) (fun _ _ => ⟨rfl, e0, (by decide : 0 + 4 ≤ _), (by decide : 0 + 16 ≤ _)⟩)
          dsimp only [Pt.U, Pt.locs, Pt.cells, Pt.slots] at X99 l99 y99 z99 st99 hQ99
          have X99 := own_to X99 l99 y99 z99
          obtain ⟨x99_b1, x99_x36_x2_x3_x13_x1_b2, x99_x36_x2_x3_x13_x1_k2, rfl, N99q, K99, sz99_b1, sz99_x36_x2_x3_x13_x1_b2, q99_0, q99_1, q99_2, q99_3⟩ := hQ99
          have N99 := Fr.app N0 N99q
          have g100 : n0 ≤ x99_b1 := Nat.le_trans (Nat.le_of_eq O0.1.symm) (Nat.le_trans O0.2.1 sz99_b1)
          have s101 : h0.size ≤ x99_b1 := Nat.le_trans (Keep.refl h0 []).1 sz99_b1
          have g102 : n0 ≤ x99_x36_x2_x3_x13_x1_b2 := Nat.le_trans (Nat.le_of_eq O0.1.symm) (Nat.le_trans O0.2.1 sz99_x36_x2_x3_x13_x1_b2)
          have s103 : h0.size ≤ x99_x36_x2_x3_x13_x1_b2 := Nat.le_trans (Keep.refl h0 []).1 sz99_x36_x2_x3_x13_x1_b2
          have O104 : Old Z n0 T99.heap := Old.keep O0 K99 all0
          have K105 : Keep h0 T99.heap [] := (Keep.refl h0 []).trans K99 all0
          have hk106 := Nat.le_trans hk0 K99.1
          obtain ⟨_, _, ⟨T107, L107, k107, n107⟩, -, X107, hSi107, hge107, ⟨Lc107, hQ107, l107, y107, z107⟩, st107⟩ := callSS X99 hx (y := my_0) hown0 (mvT hZ0 (wq hw 27 rfl)) (mvT hZ0 (wq hw 28 rfl)) (mvT hZ0 (wq hw 29 rfl)) (mvT hZ0 (wq hw 30 rfl)) (by decide) (own_backCH (W := 0) (rc76_traceAsked l Z a0 hw [] cs hS x99_b1 x99_x36_x2_x3_x13_x1_b2 x99_x36_x2_x3_x13_x1_k2 (nar .byte ((c1 >>> ((0 : Int32) &&& 31)).toInt8.toInt32)) (nar .byte ((c1 >>> ((8 : Int32) &&& 31)).toInt8.toInt32)) (nar .byte ((c2 >>> ((0 : Int32) &&& 31)).toInt8.toInt32)) (nar .byte ((c2 >>> ((8 : Int32) &&& 31)).toInt8.toInt32)) (nar .byte ((c3 >>> ((0 : Int32) &&& 31)).toInt8.toInt32)) (nar .byte ((c3 >>> ((8 : Int32) &&& 31)).toInt8.toInt32)) T99.heap n0 O104 g100 g102 q99_0 q99_1 q99_2 q99_3) hZ0 (wq hw 30 rfl) (wq hw 29 rfl) (by decide) (by decide) (own_EL hw) (own_CHx K105 hCH.1 s101 q99_0.lt)) (g := (mkF m 114 #[.val (.int p0), .val (.int p1), .val (.int p2), .val (.int p3), .val (.int (p0 &&& (7 : Int32))), .val (.int (0 : Int32)), .val (.int (3 : Int32)), .val (.int c1), .val (.int c2), .val (.int c3), .val (.ref x99_b1), .val (.int (1 : Int32))] [(.ref x99_b1)])) rfl (by rw [hml]; rfl) (argsL := [(.ref x99_b1)]) (rest := []) (lenOf pd_0 rfl) rfl (by show 2 * 0 + _ ≤ _; exact Nat.le_of_eq rfl) (hb hby at_114) (fun _ _ => ⟨rfl, rfl, (by decide : 4 + 2 ≤ _), (by decide : 16 + 8 ≤ _)⟩)
          dsimp only [Pt.U, Pt.locs, Pt.cells, Pt.slots] at X107 l107 y107 z107 st107 hQ107 hSi107 hge107
          have X107 := own_to X107 l107 y107 z107
          obtain ⟨X107r, hS107, hZ107, hown107⟩ := rebS hS0 hk106 X107 hSi107 hge107 hZ0 hown0
          obtain ⟨rfl, N107q, K107⟩ := hQ107
          have N107 := Fr.app N99 N107q
          have O108 : Old Z n0 T107.heap := Old.keep O104 K107 all0
          have K109 : Keep h0 T107.heap [] := K105.trans K107 all0
          obtain ⟨fs, hr, hrun, hended, hEW⟩ := Jvm.Stand.leaveW X107r hS107 (Nat.le_refl _) (v := (some (.int (1 : Int32)))) (fun h => by rw [Bd.returns] at h; cases h)
          refine ⟨_, _, gp87 _ ?_, hrun, hended, _, _, rfl, ?_, ⟨_, rfl⟩, hEW.2.1, hEW.2.2.1, hEW.2.2.2.mono (by decide) (by decide)⟩
          · refine XS.iload X0.here hx rfl (hb hby at_55) rfl ?_
            refine XS.iload X0.here hx rfl (hb hby at_57) rfl ?_
            refine XS.iload X0.here hx rfl (hb hby at_59) rfl ?_
            refine XS.iload X0.here hx rfl (hb hby at_61) rfl ?_
            refine st99 _ ?_
            refine XS.astore X99.here hx rfl (hb hby at_66) rfl rfl (l' := #[.val (.int p0), .val (.int p1), .val (.int p2), .val (.int p3), .val (.int (p0 &&& (7 : Int32))), .val (.int (0 : Int32)), .val (.int (3 : Int32)), .val (.int c1), .val (.int c2), .val (.int c3), .val (.ref x99_b1), .unset]) rfl ?_
            refine XS.iload X99.here hx rfl (hb hby at_68) rfl ?_
            refine XS.ifYes X99.here hx rfl (pc0 := 70) (pc' := 79) rfl (hb hby at_70) rfl ((if0 _ _).trans (teq (by decide : (0 : Int32) = (0 : Int32))).1) (by decide) (by decide) ?_
            refine XS.iload X99.here hx rfl (hb hby at_79) rfl ?_
            refine XS.ifYes X99.here hx rfl (pc0 := 81) (pc' := 90) rfl (hb hby at_81) rfl ((if0 _ _).trans (feq (by decide : ¬ ((3 : Int32) = (0 : Int32)))).2) (by decide) (by decide) ?_
            refine XS.iload X99.here hx rfl (hb hby at_90) rfl ?_
            refine XS.iconst X99.here hx rfl (hb hby at_92) ?_
            refine XS.icmpYes X99.here hx rfl (pc0 := 93) (pc' := 109) rfl (hb hby at_93) rfl (feq (by decide : ¬ ((3 : Int32) = (1 : Int32)))).2 (by decide) (by decide) ?_
            refine XS.iconst X99.here hx rfl (hb hby at_109) ?_
            refine XS.istore X99.here hx rfl (hb hby at_110) rfl (l' := #[.val (.int p0), .val (.int p1), .val (.int p2), .val (.int p3), .val (.int (p0 &&& (7 : Int32))), .val (.int (0 : Int32)), .val (.int (3 : Int32)), .val (.int c1), .val (.int c2), .val (.int c3), .val (.ref x99_b1), .val (.int (1 : Int32))]) rfl ?_
            refine XS.aload X99.here hx rfl (hb hby at_112) rfl rfl ?_
            refine st107.trans ?_
            refine XS.iload X107r.here hx rfl (hb hby at_117) rfl ?_
            refine XS.icmpNo X107r.here hx rfl (hb hby at_119) rfl (teq (by decide : (1 : Int32) = (1 : Int32))).2 ?_
            refine XS.iconst X107r.here hx rfl (hb hby at_122) ?_
            refine XS.goto X107r.here hx rfl (pc0 := 123) (pc' := 127) rfl (hb hby at_123) (by decide) (by decide) ?_
            exact retN X107r hx (t := .boolean) Bd.returns (by simp) (hb hby at_127) hr
          · show Q0 n0 _ T107.heap _
            exact ⟨rfl, N107⟩
        · have _ := hg2
          by_cases hg3 : (255 : Int32) < c3
          · have _ := hg3
            obtain ⟨_, _, ⟨T110, L110, k110, n110⟩, -, X110, ⟨Lc110, hQ110, l110, y110, z110⟩, st110⟩ := Jvm.LawKit.callS X0 hx (y := my_3) hown0 (mvT hZ0 (wq hw 1 rfl)) (mvT hZ0 (wq hw 2 rfl)) (mvT hZ0 (wq hw 3 rfl)) (mvT hZ0 (wq hw 4 rfl)) (by decide) (backOf (W := 0) (rc84_make l Z a0 hw [] cs hS c1 c2 c3 h0 n0 O0 hC1 hC2 hC3 hg1 hg2 hg3) hZ0 (wq hw 4 rfl) (wq hw 3 rfl) (by decide) (by decide)) (g := (mkF m 63 #[.val (.int p0), .val (.int p1), .val (.int p2), .val (.int p3), .val (.int (p0 &&& (7 : Int32))), .val (.int (0 : Int32)), .val (.int (3 : Int32)), .val (.int c1), .val (.int c2), .val (.int c3), .unset, .unset] [(.int c3), (.int c2), (.int c1), (.int (3 : Int32))])) rfl (by rw [hml]; rfl) (argsL := [(.int (3 : Int32)), (.int c1), (.int c2), (.int c3)]) (rest := []) (lenOf pd_3 rfl) rfl (by show 2 * 0 + _ ≤ _; exact Nat.le_of_eq rfl) (hb hby at_63) (fun _ _ => ⟨rfl, e0, (by decide : 0 + 4 ≤ _), (by decide : 0 + 16 ≤ _)⟩)
            dsimp only [Pt.U, Pt.locs, Pt.cells, Pt.slots] at X110 l110 y110 z110 st110 hQ110
            have X110 := own_to X110 l110 y110 z110
            obtain ⟨x110_b1, x110_x36_x2_x3_x13_x1_b2, x110_x36_x2_x3_x13_x1_k2, rfl, N110q, K110, sz110_b1, sz110_x36_x2_x3_x13_x1_b2, q110_0, q110_1, q110_2, q110_3⟩ := hQ110
            have N110 := Fr.app N0 N110q
            have g111 : n0 ≤ x110_b1 := Nat.le_trans (Nat.le_of_eq O0.1.symm) (Nat.le_trans O0.2.1 sz110_b1)
            have s112 : h0.size ≤ x110_b1 := Nat.le_trans (Keep.refl h0 []).1 sz110_b1
            have g113 : n0 ≤ x110_x36_x2_x3_x13_x1_b2 := Nat.le_trans (Nat.le_of_eq O0.1.symm) (Nat.le_trans O0.2.1 sz110_x36_x2_x3_x13_x1_b2)
            have s114 : h0.size ≤ x110_x36_x2_x3_x13_x1_b2 := Nat.le_trans (Keep.refl h0 []).1 sz110_x36_x2_x3_x13_x1_b2
            have O115 : Old Z n0 T110.heap := Old.keep O0 K110 all0
            have K116 : Keep h0 T110.heap [] := (Keep.refl h0 []).trans K110 all0
            have hk117 := Nat.le_trans hk0 K110.1
            obtain ⟨_, _, ⟨T118, L118, k118, n118⟩, -, X118, hSi118, hge118, ⟨Lc118, hQ118, l118, y118, z118⟩, st118⟩ := callSS X110 hx (y := my_0) hown0 (mvT hZ0 (wq hw 27 rfl)) (mvT hZ0 (wq hw 28 rfl)) (mvT hZ0 (wq hw 29 rfl)) (mvT hZ0 (wq hw 30 rfl)) (by decide) (own_backCH (W := 0) (rc76_traceAsked l Z a0 hw [] cs hS x110_b1 x110_x36_x2_x3_x13_x1_b2 x110_x36_x2_x3_x13_x1_k2 (nar .byte ((c1 >>> ((0 : Int32) &&& 31)).toInt8.toInt32)) (nar .byte ((c1 >>> ((8 : Int32) &&& 31)).toInt8.toInt32)) (nar .byte ((c2 >>> ((0 : Int32) &&& 31)).toInt8.toInt32)) (nar .byte ((c2 >>> ((8 : Int32) &&& 31)).toInt8.toInt32)) (nar .byte ((c3 >>> ((0 : Int32) &&& 31)).toInt8.toInt32)) (nar .byte ((c3 >>> ((8 : Int32) &&& 31)).toInt8.toInt32)) T110.heap n0 O115 g111 g113 q110_0 q110_1 q110_2 q110_3) hZ0 (wq hw 30 rfl) (wq hw 29 rfl) (by decide) (by decide) (own_EL hw) (own_CHx K116 hCH.1 s112 q110_0.lt)) (g := (mkF m 114 #[.val (.int p0), .val (.int p1), .val (.int p2), .val (.int p3), .val (.int (p0 &&& (7 : Int32))), .val (.int (0 : Int32)), .val (.int (3 : Int32)), .val (.int c1), .val (.int c2), .val (.int c3), .val (.ref x110_b1), .val (.int (1 : Int32))] [(.ref x110_b1)])) rfl (by rw [hml]; rfl) (argsL := [(.ref x110_b1)]) (rest := []) (lenOf pd_0 rfl) rfl (by show 2 * 0 + _ ≤ _; exact Nat.le_of_eq rfl) (hb hby at_114) (fun _ _ => ⟨rfl, rfl, (by decide : 4 + 2 ≤ _), (by decide : 16 + 8 ≤ _)⟩)
            dsimp only [Pt.U, Pt.locs, Pt.cells, Pt.slots] at X118 l118 y118 z118 st118 hQ118 hSi118 hge118
            have X118 := own_to X118 l118 y118 z118
            obtain ⟨X118r, hS118, hZ118, hown118⟩ := rebS hS0 hk117 X118 hSi118 hge118 hZ0 hown0
            obtain ⟨rfl, N118q, K118⟩ := hQ118
            have N118 := Fr.app N110 N118q
            have O119 : Old Z n0 T118.heap := Old.keep O115 K118 all0
            have K120 : Keep h0 T118.heap [] := K116.trans K118 all0
            obtain ⟨fs, hr, hrun, hended, hEW⟩ := Jvm.Stand.leaveW X118r hS118 (Nat.le_refl _) (v := (some (.int (1 : Int32)))) (fun h => by rw [Bd.returns] at h; cases h)
            refine ⟨_, _, gp87 _ ?_, hrun, hended, _, _, rfl, ?_, ⟨_, rfl⟩, hEW.2.1, hEW.2.2.1, hEW.2.2.2.mono (by decide) (by decide)⟩
            · refine XS.iload X0.here hx rfl (hb hby at_55) rfl ?_
              refine XS.iload X0.here hx rfl (hb hby at_57) rfl ?_
              refine XS.iload X0.here hx rfl (hb hby at_59) rfl ?_
              refine XS.iload X0.here hx rfl (hb hby at_61) rfl ?_
              refine st110 _ ?_
              refine XS.astore X110.here hx rfl (hb hby at_66) rfl rfl (l' := #[.val (.int p0), .val (.int p1), .val (.int p2), .val (.int p3), .val (.int (p0 &&& (7 : Int32))), .val (.int (0 : Int32)), .val (.int (3 : Int32)), .val (.int c1), .val (.int c2), .val (.int c3), .val (.ref x110_b1), .unset]) rfl ?_
              refine XS.iload X110.here hx rfl (hb hby at_68) rfl ?_
              refine XS.ifYes X110.here hx rfl (pc0 := 70) (pc' := 79) rfl (hb hby at_70) rfl ((if0 _ _).trans (teq (by decide : (0 : Int32) = (0 : Int32))).1) (by decide) (by decide) ?_
              refine XS.iload X110.here hx rfl (hb hby at_79) rfl ?_
              refine XS.ifYes X110.here hx rfl (pc0 := 81) (pc' := 90) rfl (hb hby at_81) rfl ((if0 _ _).trans (feq (by decide : ¬ ((3 : Int32) = (0 : Int32)))).2) (by decide) (by decide) ?_
              refine XS.iload X110.here hx rfl (hb hby at_90) rfl ?_
              refine XS.iconst X110.here hx rfl (hb hby at_92) ?_
              refine XS.icmpYes X110.here hx rfl (pc0 := 93) (pc' := 109) rfl (hb hby at_93) rfl (feq (by decide : ¬ ((3 : Int32) = (1 : Int32)))).2 (by decide) (by decide) ?_
              refine XS.iconst X110.here hx rfl (hb hby at_109) ?_
              refine XS.istore X110.here hx rfl (hb hby at_110) rfl (l' := #[.val (.int p0), .val (.int p1), .val (.int p2), .val (.int p3), .val (.int (p0 &&& (7 : Int32))), .val (.int (0 : Int32)), .val (.int (3 : Int32)), .val (.int c1), .val (.int c2), .val (.int c3), .val (.ref x110_b1), .val (.int (1 : Int32))]) rfl ?_
              refine XS.aload X110.here hx rfl (hb hby at_112) rfl rfl ?_
              refine st118.trans ?_
              refine XS.iload X118r.here hx rfl (hb hby at_117) rfl ?_
              refine XS.icmpNo X118r.here hx rfl (hb hby at_119) rfl (teq (by decide : (1 : Int32) = (1 : Int32))).2 ?_
              refine XS.iconst X118r.here hx rfl (hb hby at_122) ?_
              refine XS.goto X118r.here hx rfl (pc0 := 123) (pc' := 127) rfl (hb hby at_123) (by decide) (by decide) ?_
              exact retN X118r hx (t := .boolean) Bd.returns (by simp) (hb hby at_127) hr
            · show Q0 n0 _ T118.heap _
              exact ⟨rfl, N118⟩
          · have _ := hg3
            obtain ⟨_, _, ⟨T121, L121, k121, n121⟩, -, X121, ⟨Lc121, hQ121, l121, y121, z121⟩, st121⟩ := Jvm.LawKit.callS X0 hx (y := my_3) hown0 (mvT hZ0 (wq hw 1 rfl)) (mvT hZ0 (wq hw 2 rfl)) (mvT hZ0 (wq hw 3 rfl)) (mvT hZ0 (wq hw 4 rfl)) (by decide) (backOf (W := 0) (rc90_make l Z a0 hw [] cs hS c1 c2 c3 h0 n0 O0 hC1 hC2 hC3 hg1 hg2 hg3) hZ0 (wq hw 4 rfl) (wq hw 3 rfl) (by decide) (by decide)) (g := (mkF m 63 #[.val (.int p0), .val (.int p1), .val (.int p2), .val (.int p3), .val (.int (p0 &&& (7 : Int32))), .val (.int (0 : Int32)), .val (.int (3 : Int32)), .val (.int c1), .val (.int c2), .val (.int c3), .unset, .unset] [(.int c3), (.int c2), (.int c1), (.int (3 : Int32))])) rfl (by rw [hml]; rfl) (argsL := [(.int (3 : Int32)), (.int c1), (.int c2), (.int c3)]) (rest := []) (lenOf pd_3 rfl) rfl (by show 2 * 0 + _ ≤ _; exact Nat.le_of_eq rfl) (hb hby at_63) (fun _ _ => ⟨rfl, e0, (by decide : 0 + 3 ≤ _), (by decide : 0 + 10 ≤ _)⟩)
            dsimp only [Pt.U, Pt.locs, Pt.cells, Pt.slots] at X121 l121 y121 z121 st121 hQ121
            have X121 := own_to X121 l121 y121 z121
            obtain ⟨x121_b1, x121_x36_x2_x3_b1, x121_x36_x2_x3_k1, rfl, N121q, K121, sz121_b1, sz121_x36_x2_x3_b1, q121_0, q121_1, q121_2, q121_3⟩ := hQ121
            have N121 := Fr.app N0 N121q
            have g122 : n0 ≤ x121_b1 := Nat.le_trans (Nat.le_of_eq O0.1.symm) (Nat.le_trans O0.2.1 sz121_b1)
            have s123 : h0.size ≤ x121_b1 := Nat.le_trans (Keep.refl h0 []).1 sz121_b1
            have g124 : n0 ≤ x121_x36_x2_x3_b1 := Nat.le_trans (Nat.le_of_eq O0.1.symm) (Nat.le_trans O0.2.1 sz121_x36_x2_x3_b1)
            have s125 : h0.size ≤ x121_x36_x2_x3_b1 := Nat.le_trans (Keep.refl h0 []).1 sz121_x36_x2_x3_b1
            have O126 : Old Z n0 T121.heap := Old.keep O0 K121 all0
            have K127 : Keep h0 T121.heap [] := (Keep.refl h0 []).trans K121 all0
            have hk128 := Nat.le_trans hk0 K121.1
            obtain ⟨_, _, ⟨T129, L129, k129, n129⟩, -, X129, hSi129, hge129, ⟨Lc129, hQ129, l129, y129, z129⟩, st129⟩ := callSS X121 hx (y := my_0) hown0 (mvT hZ0 (wq hw 27 rfl)) (mvT hZ0 (wq hw 28 rfl)) (mvT hZ0 (wq hw 29 rfl)) (mvT hZ0 (wq hw 30 rfl)) (by decide) (own_backCH (W := 0) (rc96_traceAsked l Z a0 hw [] cs hS x121_b1 x121_x36_x2_x3_b1 x121_x36_x2_x3_k1 (nar .byte (c1.toInt8.toInt32)) (nar .byte (c2.toInt8.toInt32)) (nar .byte (c3.toInt8.toInt32)) T121.heap n0 O126 g122 g124 q121_0 q121_1 q121_2 q121_3) hZ0 (wq hw 30 rfl) (wq hw 29 rfl) (by decide) (by decide) (own_EL hw) (own_CHx K127 hCH.1 s123 q121_0.lt)) (g := (mkF m 114 #[.val (.int p0), .val (.int p1), .val (.int p2), .val (.int p3), .val (.int (p0 &&& (7 : Int32))), .val (.int (0 : Int32)), .val (.int (3 : Int32)), .val (.int c1), .val (.int c2), .val (.int c3), .val (.ref x121_b1), .val (.int (1 : Int32))] [(.ref x121_b1)])) rfl (by rw [hml]; rfl) (argsL := [(.ref x121_b1)]) (rest := []) (lenOf pd_0 rfl) rfl (by show 2 * 0 + _ ≤ _; exact Nat.le_of_eq rfl) (hb hby at_114) (fun _ _ => ⟨rfl, rfl, (by decide : 3 + 2 ≤ _), (by decide : 10 + 8 ≤ _)⟩)
            dsimp only [Pt.U, Pt.locs, Pt.cells, Pt.slots] at X129 l129 y129 z129 st129 hQ129 hSi129 hge129
            have X129 := own_to X129 l129 y129 z129
            obtain ⟨X129r, hS129, hZ129, hown129⟩ := rebS hS0 hk128 X129 hSi129 hge129 hZ0 hown0
            obtain ⟨rfl, N129q, K129⟩ := hQ129
            have N129 := Fr.app N121 N129q
            have O130 : Old Z n0 T129.heap := Old.keep O126 K129 all0
            have K131 : Keep h0 T129.heap [] := K127.trans K129 all0
            obtain ⟨fs, hr, hrun, hended, hEW⟩ := Jvm.Stand.leaveW X129r hS129 (Nat.le_refl _) (v := (some (.int (1 : Int32)))) (fun h => by rw [Bd.returns] at h; cases h)
            refine ⟨_, _, gp87 _ ?_, hrun, hended, _, _, rfl, ?_, ⟨_, rfl⟩, hEW.2.1, hEW.2.2.1, hEW.2.2.2.mono (by decide) (by decide)⟩
            · refine XS.iload X0.here hx rfl (hb hby at_55) rfl ?_
              refine XS.iload X0.here hx rfl (hb hby at_57) rfl ?_
              refine XS.iload X0.here hx rfl (hb hby at_59) rfl ?_
              refine XS.iload X0.here hx rfl (hb hby at_61) rfl ?_
              refine st121 _ ?_
              refine XS.astore X121.here hx rfl (hb hby at_66) rfl rfl (l' := #[.val (.int p0), .val (.int p1), .val (.int p2), .val (.int p3), .val (.int (p0 &&& (7 : Int32))), .val (.int (0 : Int32)), .val (.int (3 : Int32)), .val (.int c1), .val (.int c2), .val (.int c3), .val (.ref x121_b1), .unset]) rfl ?_
              refine XS.iload X121.here hx rfl (hb hby at_68) rfl ?_
              refine XS.ifYes X121.here hx rfl (pc0 := 70) (pc' := 79) rfl (hb hby at_70) rfl ((if0 _ _).trans (teq (by decide : (0 : Int32) = (0 : Int32))).1) (by decide) (by decide) ?_
              refine XS.iload X121.here hx rfl (hb hby at_79) rfl ?_
              refine XS.ifYes X121.here hx rfl (pc0 := 81) (pc' := 90) rfl (hb hby at_81) rfl ((if0 _ _).trans (feq (by decide : ¬ ((3 : Int32) = (0 : Int32)))).2) (by decide) (by decide) ?_
              refine XS.iload X121.here hx rfl (hb hby at_90) rfl ?_
              refine XS.iconst X121.here hx rfl (hb hby at_92) ?_
              refine XS.icmpYes X121.here hx rfl (pc0 := 93) (pc' := 109) rfl (hb hby at_93) rfl (feq (by decide : ¬ ((3 : Int32) = (1 : Int32)))).2 (by decide) (by decide) ?_
              refine XS.iconst X121.here hx rfl (hb hby at_109) ?_
              refine XS.istore X121.here hx rfl (hb hby at_110) rfl (l' := #[.val (.int p0), .val (.int p1), .val (.int p2), .val (.int p3), .val (.int (p0 &&& (7 : Int32))), .val (.int (0 : Int32)), .val (.int (3 : Int32)), .val (.int c1), .val (.int c2), .val (.int c3), .val (.ref x121_b1), .val (.int (1 : Int32))]) rfl ?_
              refine XS.aload X121.here hx rfl (hb hby at_112) rfl rfl ?_
              refine st129.trans ?_
              refine XS.iload X129r.here hx rfl (hb hby at_117) rfl ?_
              refine XS.icmpNo X129r.here hx rfl (hb hby at_119) rfl (teq (by decide : (1 : Int32) = (1 : Int32))).2 ?_
              refine XS.iconst X129r.here hx rfl (hb hby at_122) ?_
              refine XS.goto X129r.here hx rfl (pc0 := 123) (pc' := 127) rfl (hb hby at_123) (by decide) (by decide) ?_
              exact retN X129r hx (t := .boolean) Bd.returns (by simp) (hb hby at_127) hr
            · show Q0 n0 _ T129.heap _
              exact ⟨rfl, N129⟩
set_option maxRecDepth 65536 in
set_option maxHeartbeats 40000000 in
theorem comes_1 {Post : Tables → Env → Array Value → State → Outcome → State → Prop} (hpost : ∀ tb e args s v u, (limb_1_1.after args s (.returned v) u = true ∧ limb_1_2.after args s (.returned v) u = true ∧ True) → ReturnedEndW s (.returned v) u (Jvm.fieldLocs frame_1_writes args s ++ Jvm.arrayLocs frame_1_arrays args s ++ Jvm.staticLocs frame_1_statics s) 24 2176 → Post tb e args s (.returned v) u) :
    ArmFor flags0 classFile x code maxLocals ret World_1 tables_1 room_1 Calls_1 rest_1 Pre_1 Post := by
  intro l hfl _ _ p e ha hc hk s m args below hf hA hF happ hP
  obtain ⟨hcalls, hrest, hpre⟩ := hP
  obtain ⟨-, -, -, hnamed, -, -, -, hat⟩ := (Spec.applies_iff hf).mp happ
  obtain ⟨hg, hn⟩ := and_e (Cond.before_iff.mp (show (Jvm.Cond.and given_1 narrow_1).before args s = true from hpre))
  obtain ⟨g0, r0⟩ := and_e hg
  obtain ⟨g1, r1⟩ := and_e r0
  obtain ⟨g2, r2⟩ := and_e r1
  obtain ⟨g3, r3⟩ := and_e r2
  obtain ⟨w0, w1, w2, w3, rfl⟩ : ∃ w0 w1 w2 w3 : Value, args = #[w0, w1, w2, w3] := by
    have hs : args.size = 4 := by simpa [Cond.value, given_1] using g0
    obtain ⟨L⟩ := args
    match L, hs with
    | [w0, w1, w2, w3], _ => exact ⟨w0, w1, w2, w3, rfl⟩
  have hw := fun d (hd : d ∈ tables_1) => atoms_spec (ws := Jvm.Cond.code x code maxLocals ret :: tables_1) hat d (List.mem_cons_of_mem _ hd)
  have hfit : Fit s := fun {y c} hc i hi => by
    obtain ⟨ha, rfl⟩ := Array.getElem?_eq_some_iff.mp hc
    have q := List.all_eq_true.mp ((Array.all_eq_true_iff_forall_mem.mp hF) _ (Array.getElem_mem ha)) i (List.mem_range.mpr hi)
    simpa [Array.getElem?_eq_getElem hi] using q
  obtain ⟨hsets, hown0⟩ := atoms_of _ (rest_1_c_eq ▸ (show rest_1_c.before _ s = true from hrest))
  obtain ⟨i0, ei0⟩ := is_v g1
  obtain rfl : w0 = (.int i0) := Option.some.inj ei0
  obtain ⟨i1, ei1⟩ := is_v g2
  obtain rfl : w1 = (.int i1) := Option.some.inj ei1
  obtain ⟨i2, ei2⟩ := is_v g3
  obtain rfl : w2 = (.int i2) := Option.some.inj ei2
  obtain ⟨i3, ei3⟩ := is_v r3
  obtain rfl : w3 = (.int i3) := Option.some.inj ei3
  obtain ⟨cs, hS⟩ := own_sb (hsets _ (List.mem_of_getElem? (i := 0) rfl)) (hsets _ (List.mem_of_getElem? (i := 1) rfl)) (hsets _ (List.mem_of_getElem? (i := 2) rfl)) (hsets _ (List.mem_of_getElem? (i := 11) rfl)) (hsets _ (List.mem_of_getElem? (i := 12) rfl)) (hsets _ (List.mem_of_getElem? (i := 14) rfl)) (hsets _ (List.mem_of_getElem? (i := 15) rfl)) (hsets _ (List.mem_of_getElem? (i := 17) rfl)) (hsets _ (List.mem_of_getElem? (i := 18) rfl))
  have hCH : CHS s s.vm s.heap [] := ⟨CHv.start (own_EL hw) hcalls.1 (hsets _ (List.mem_of_getElem? (i := 2) rfl)) (wq hw 20 rfl) (wq hw 6 rfl), fun _ q => by cases q⟩
  obtain ⟨n, o, h1, h2, h3, _, L, rfl, ⟨rfl, N⟩, hq⟩ := rm0 l s _ hw tables_1 cs hS i0 i1 i2 i3 s.heap s.heap.size (Old.start s) p e ha hc hk s m _ below hf ((Spec.applies_iff_loose hf).mp happ).1 ⟨rfl, State.Warmed39.refl s, rfl, hCH⟩ trivial
  refine ⟨n, _, h1, h2, h3, hpost _ _ _ _ _ _ ⟨Cond.after_iff.mpr rfl, Cond.after_iff.mpr (eq_i res_at (Term.int_eval (1)) rfl), trivial⟩ ⟨hq.1, hq.2.1, hq.2.2.1, (hq.2.2.2.sift fun y hy => Or.inr (N y hy)).mono (by decide) (by decide)⟩⟩
theorem main_1_1 : Claimed_1_1 := comes_1 fun _ _ _ _ _ _ h hF => ⟨h.1, hF⟩
theorem main_1_2 : Claimed_1_2 := comes_1 fun _ _ _ _ _ _ h hF => ⟨h.2.1, hF⟩
end Jvm.Pilot.@@N@@
-- the witness, by the kit's program
namespace Jvm.Pilot.@@N@@
open Jvm Jvm.ClassFile Sem Op Lib Jvm.Free Jvm.Stand Jvm.Pilot.@@N@@.Jvm.D
/-! MADE BY PROGRAM (witnessworld.py) out of the Statement's table words and the real class files: 20 classes; the members and pool entries that the words name. The judged class is class 1, her method 2. -/
namespace start1
open Jvm.ClassFile
def u (s : String) : CpInfo := .utf8 (stringToUtf16 s)
/-- a pool by its gaps: so many unusable entries, then the entry; so many at the end -/
def gap : Nat → List CpInfo → List CpInfo
  | 0, r => r
  | n + 1, r => .unusable :: gap n r
def poolList (es : List (Nat × CpInfo)) (last : Nat) : List CpInfo := es.foldr (fun e r => gap e.1 (e.2 :: r)) (gap last [])
def pool (es : List (Nat × CpInfo)) (last : Nat) : Array CpInfo := ⟨poolList es last⟩
def fileOf (pool : Array CpInfo) (this : Nat) (attrs : Array Attribute := #[]) (ms : Array MethodInfo := #[]) (fl : Nat := 33) (sup : Nat := 0) (ifs : Array Nat := #[]) (fds : Array FieldInfo := #[]) : ClassFile where
  minorVersion := 0
  majorVersion := 65
  constantPool := pool
  accessFlags := fl
  thisClass := this
  superClass := sup
  interfaces := ifs
  fields := fds
  methods := ms
  attributes := attrs
def plain (name : String) (sup : Option ClassId) : Class where
  name := name
  kind := .ordinary
  loader := none
  accessFlags := 33
  super := sup
  interfaces := #[]
  cf := none
  fields := #[]
  methods := #[]
  instanceTypes := #[]
  staticTypes := #[]
  resolved := #[]
  callSites := []
  init := .initialized
  statics := none
  mirror := none

def pool0 : Array CpInfo := pool [(5, u "<init>"), (0, u "()V"), (1, .class_ 10), (1, u "java/lang/Object")] 113

def k0c0 : Code := { maxStack := 0, maxLocals := 1, code := object_method_1_code, exceptionTable := #[], attributes := #[] }
def k0m0 : Method := { name := "<init>", desc := "()V", sig := { parameters := [], returnType := none }, accessFlags := 1, code := some k0c0 }
/-- java/lang/Object -/
def k0 : Class := { plain "java/lang/Object" none with
  accessFlags := 33
  interfaces := #[]
  cf := some (fileOf pool0 8 #[] #[{ accessFlags := 1, nameIndex := 5, descriptorIndex := 6, attributes := #[] }] 33 0 #[] #[])
  fields := #[]
  methods := #[k0m0]
  instanceTypes := #[]
  staticTypes := #[]
  resolved := Array.replicate 124 none
  statics := none }

def pool1 : Array CpInfo := pool [(2, .class_ 4), (1, u "java/lang/Object"), (0, u "<init>"), (0, u "()V"), (0, .class_ 8), (0, u "java/lang/String"), (0, .methodref 7 10), (0, .nameAndType 5 11), (0, u "([C)V"), (0, .integer 65535), (0, .methodref 14 15), (0, .class_ 16), (0, .nameAndType 17 18), (0, u "com/example/marga/marga/cli/UnforeseenFailureTraceAskedPinLaw"), (0, u "make"), (0, u "(ICCC)Ljava/lang/String;"), (0, .methodref 20 21), (0, .class_ 22), (0, .nameAndType 23 24), (0, u "com/example/marga/marga/cli/UnforeseenFailure"), (0, u "traceAsked"), (0, u "(Ljava/lang/String;)Z"), (3, u "law"), (0, u "(IIII)Z")] 2

def k1m0 : Method := { name := "<init>", desc := "()V", sig := { parameters := [], returnType := none }, accessFlags := 2, code := none }
def k1c1 : Code := { maxStack := 6, maxLocals := 4, code := method_2_code, exceptionTable := #[], attributes := #[] }
def k1m1 : Method := { name := "make", desc := "(ICCC)Ljava/lang/String;", sig := { parameters := [.int, .char, .char, .char], returnType := some (.object "java/lang/String") }, accessFlags := 10, code := some k1c1 }
def k1c2 : Code := { maxStack := 4, maxLocals := 12, code := code, exceptionTable := #[], attributes := #[] }
def k1m2 : Method := { name := "law", desc := "(IIII)Z", sig := { parameters := [.int, .int, .int, .int], returnType := some .boolean }, accessFlags := 9, code := some k1c2 }
/-- com/example/marga/marga/cli/UnforeseenFailureTraceAskedPinLaw -/
def k1 : Class := { plain "com/example/marga/marga/cli/UnforeseenFailureTraceAskedPinLaw" (some 0) with
  accessFlags := 49
  interfaces := #[]
  cf := some (fileOf pool1 14 #[] #[{ accessFlags := 2, nameIndex := 5, descriptorIndex := 6, attributes := #[] }, { accessFlags := 10, nameIndex := 17, descriptorIndex := 18, attributes := #[] }, { accessFlags := 9, nameIndex := 28, descriptorIndex := 29, attributes := #[] }] 49 2 #[] #[])
  fields := #[]
  methods := #[k1m0, k1m1, k1m2]
  instanceTypes := #[]
  staticTypes := #[]
  resolved := Array.replicate 32 none
  statics := none }

def pool2 : Array CpInfo := pool [(1, .class_ 2), (0, u "java/io/Serializable"), (0, .class_ 4), (0, u "java/lang/Object")] 2

/-- java/io/Serializable -/
def k2 : Class := { plain "java/io/Serializable" (some 0) with
  accessFlags := 1537
  interfaces := #[]
  cf := some (fileOf pool2 1 #[] #[] 1537 3 #[] #[])
  fields := #[]
  methods := #[]
  instanceTypes := #[]
  staticTypes := #[]
  resolved := Array.replicate 7 none
  statics := none }

def pool3 : Array CpInfo := pool [(1, .class_ 2), (0, u "java/lang/Comparable"), (0, .class_ 4), (0, u "java/lang/Object")] 7

/-- java/lang/Comparable -/
def k3 : Class := { plain "java/lang/Comparable" (some 0) with
  accessFlags := 1537
  interfaces := #[]
  cf := some (fileOf pool3 1 #[] #[] 1537 3 #[] #[])
  fields := #[]
  methods := #[]
  instanceTypes := #[]
  staticTypes := #[]
  resolved := Array.replicate 12 none
  statics := none }

def pool4 : Array CpInfo := pool [(2, .class_ 4), (1, u "java/lang/CharSequence"), (42, .class_ 48), (0, u "java/lang/CharSequence$1CodePointIterator"), (10, .class_ 60), (0, u "java/lang/CharSequence$1CharIterator"), (5, .class_ 67), (0, u "java/lang/Object")] 63

/-- java/lang/CharSequence -/
def k4 : Class := { plain "java/lang/CharSequence" (some 0) with
  accessFlags := 1537
  interfaces := #[]
  cf := some (fileOf pool4 2 #[.nestMembers #[47, 59]] #[] 1537 66 #[] #[])
  fields := #[]
  methods := #[]
  instanceTypes := #[]
  staticTypes := #[]
  resolved := Array.replicate 131 none
  statics := none }

def pool5 : Array CpInfo := pool [(1, .class_ 2), (0, u "java/lang/constant/Constable"), (0, .class_ 4), (0, u "java/lang/Object")] 6

/-- java/lang/constant/Constable -/
def k5 : Class := { plain "java/lang/constant/Constable" (some 0) with
  accessFlags := 1537
  interfaces := #[]
  cf := some (fileOf pool5 1 #[] #[] 1537 3 #[] #[])
  fields := #[]
  methods := #[]
  instanceTypes := #[]
  staticTypes := #[]
  resolved := Array.replicate 11 none
  statics := none }

def pool6 : Array CpInfo := pool [(1, .class_ 2), (0, u "java/lang/constant/ConstantDesc"), (0, .class_ 4), (0, u "java/lang/Object")] 32

/-- java/lang/constant/ConstantDesc -/
def k6 : Class := { plain "java/lang/constant/ConstantDesc" (some 0) with
  accessFlags := 1537
  interfaces := #[]
  cf := some (fileOf pool6 1 #[] #[] 1537 3 #[] #[])
  fields := #[]
  methods := #[]
  instanceTypes := #[]
  staticTypes := #[]
  resolved := Array.replicate 37 none
  statics := none }

def pool7 : Array CpInfo := pool [(1, .methodref 2 3), (0, .class_ 4), (0, .nameAndType 5 6), (0, u "java/lang/Object"), (0, u "<init>"), (0, u "()V"), (0, .string 8), (0, u ""), (0, .fieldref 10 11), (0, .class_ 12), (0, .nameAndType 13 14), (0, u "java/lang/String"), (0, u "value"), (0, u "[B"), (0, .fieldref 10 16), (0, .nameAndType 17 18), (0, u "coder"), (0, u "B"), (2, u "hash"), (0, u "I"), (2, u "hashIsZero"), (0, u "Z"), (0, .methodref 10 28), (0, .nameAndType 5 29), (0, u "([CIILjava/lang/Void;)V"), (8, .fieldref 10 39), (0, .nameAndType 40 26), (0, u "COMPACT_STRINGS"), (1, .class_ 44), (1, u "java/lang/StringUTF16"), (0, u "compress"), (1, .methodref 42 48), (0, .nameAndType 49 50), (0, u "coderFromArrayLen"), (0, u "([BI)B"), (56, .class_ 109), (1, u "java/lang/StringLatin1"), (32, u "()Z"), (34, .methodref 42 178), (0, .nameAndType 45 179), (0, u "([CII)[B"), (361, .methodref 107 542), (0, .nameAndType 543 544), (0, u "equals"), (0, u "([B[B)Z"), (28, u "(Ljava/lang/Object;)Z"), (1, .class_ 576), (0, u "java/lang/CharSequence"), (22, u "CASE_INSENSITIVE_ORDER"), (0, u "Ljava/util/Comparator;"), (91, u "isEmpty"), (317, u "([C)V"), (90, u "serialPersistentFields"), (0, u "[Ljava/io/ObjectStreamField;"), (0, .class_ 1104), (0, u "java/lang/String$CaseInsensitiveComparator"), (1, .class_ 1107), (0, u "java/io/Serializable"), (0, .class_ 1109), (0, u "java/lang/Comparable"), (0, .class_ 1111), (0, u "java/lang/constant/Constable"), (0, .class_ 1113), (0, u "java/lang/constant/ConstantDesc"), (2, u "serialVersionUID"), (0, u "J"), (3, u "REPL"), (0, u "C"), (2, u "LATIN1"), (1, u "UTF16")] 323

def k7m0 : Method := { name := "<init>", desc := "()V", sig := { parameters := [], returnType := none }, accessFlags := 1, code := none }
def k7c1 : Code := { maxStack := 5, maxLocals := 2, code := jdk_42_method_3_code, exceptionTable := #[], attributes := #[] }
def k7m1 : Method := { name := "<init>", desc := "([C)V", sig := { parameters := [(.array .char)], returnType := none }, accessFlags := 1, code := some k7c1 }
def k7c2 : Code := { maxStack := 1, maxLocals := 1, code := jdk_42_method_55_code, exceptionTable := #[], attributes := #[] }
def k7m2 : Method := { name := "isEmpty", desc := "()Z", sig := { parameters := [], returnType := some .boolean }, accessFlags := 1, code := some k7c2 }
def k7c3 : Code := { maxStack := 2, maxLocals := 3, code := jdk_42_method_66_code, exceptionTable := #[], attributes := #[] }
def k7m3 : Method := { name := "equals", desc := "(Ljava/lang/Object;)Z", sig := { parameters := [(.object "java/lang/Object")], returnType := some .boolean }, accessFlags := 1, code := some k7c3 }
def k7c4 : Code := { maxStack := 4, maxLocals := 6, code := jdk_42_method_149_code, exceptionTable := #[], attributes := #[] }
def k7m4 : Method := { name := "<init>", desc := "([CIILjava/lang/Void;)V", sig := { parameters := [(.array .char), .int, .int, (.object "java/lang/Void")], returnType := none }, accessFlags := 2, code := some k7c4 }
/-- java/lang/String -/
def k7 : Class := { plain "java/lang/String" (some 0) with
  accessFlags := 49
  interfaces := #[2, 3, 4, 5, 6]
  cf := some (fileOf pool7 10 #[.nestMembers #[1103]] #[{ accessFlags := 1, nameIndex := 5, descriptorIndex := 6, attributes := #[] }, { accessFlags := 1, nameIndex := 5, descriptorIndex := 1010, attributes := #[] }, { accessFlags := 1, nameIndex := 692, descriptorIndex := 142, attributes := #[] }, { accessFlags := 1, nameIndex := 543, descriptorIndex := 573, attributes := #[] }, { accessFlags := 2, nameIndex := 5, descriptorIndex := 29, attributes := #[] }] 49 2 #[1106, 1108, 575, 1110, 1112] #[{ accessFlags := 18, nameIndex := 13, descriptorIndex := 14, attributes := #[] }, { accessFlags := 18, nameIndex := 17, descriptorIndex := 18, attributes := #[] }, { accessFlags := 2, nameIndex := 21, descriptorIndex := 22, attributes := #[] }, { accessFlags := 2, nameIndex := 25, descriptorIndex := 26, attributes := #[] }, { accessFlags := 26, nameIndex := 1116, descriptorIndex := 1117, attributes := #[] }, { accessFlags := 24, nameIndex := 40, descriptorIndex := 26, attributes := #[] }, { accessFlags := 26, nameIndex := 1101, descriptorIndex := 1102, attributes := #[] }, { accessFlags := 26, nameIndex := 1121, descriptorIndex := 1122, attributes := #[] }, { accessFlags := 25, nameIndex := 599, descriptorIndex := 600, attributes := #[] }, { accessFlags := 24, nameIndex := 1125, descriptorIndex := 18, attributes := #[] }, { accessFlags := 24, nameIndex := 1127, descriptorIndex := 18, attributes := #[] }])
  fields := #[{ name := "value", type := (.array .byte), accessFlags := 18, slot := 0, constantValue := 0 }, { name := "coder", type := .byte, accessFlags := 18, slot := 1, constantValue := 0 }, { name := "hash", type := .int, accessFlags := 2, slot := 2, constantValue := 0 }, { name := "hashIsZero", type := .boolean, accessFlags := 2, slot := 3, constantValue := 0 }, { name := "serialVersionUID", type := .long, accessFlags := 26, slot := 0, constantValue := 0 }, { name := "COMPACT_STRINGS", type := .boolean, accessFlags := 24, slot := 1, constantValue := 0 }, { name := "serialPersistentFields", type := (.array (.object "java/io/ObjectStreamField")), accessFlags := 26, slot := 2, constantValue := 0 }, { name := "REPL", type := .char, accessFlags := 26, slot := 3, constantValue := 0 }, { name := "CASE_INSENSITIVE_ORDER", type := (.object "java/util/Comparator"), accessFlags := 25, slot := 4, constantValue := 0 }, { name := "LATIN1", type := .byte, accessFlags := 24, slot := 5, constantValue := 0 }, { name := "UTF16", type := .byte, accessFlags := 24, slot := 6, constantValue := 0 }]
  methods := #[k7m0, k7m1, k7m2, k7m3, k7m4]
  instanceTypes := #[(.array .byte), .byte, .int, .boolean]
  staticTypes := #[.long, .boolean, (.array (.object "java/io/ObjectStreamField")), .char, (.object "java/util/Comparator"), .byte, .byte]
  resolved := Array.replicate 1451 none
  statics := some 0 }

def pool8 : Array CpInfo := pool [(2, .class_ 4), (1, u "java/lang/Object"), (0, u "<init>"), (0, u "()V"), (0, .methodref 8 9), (0, .class_ 10), (0, .nameAndType 11 12), (0, u "java/lang/String"), (0, u "isEmpty"), (0, u "()Z"), (0, .string 14), (0, u "0"), (0, .methodref 8 16), (0, .nameAndType 17 18), (0, u "equals"), (0, u "(Ljava/lang/Object;)Z"), (1, .class_ 22), (1, u "com/example/marga/marga/cli/UnforeseenFailure"), (33, u "ERRORS"), (0, u "Ljava/util/List;"), (15, .class_ 74), (0, u "com/example/marga/marga/cli/UnforeseenFailure$Kind"), (38, u "TRACE"), (0, u "Ljava/lang/String;"), (5, u "EXCEPTION"), (2, u "traceAsked"), (0, u "(Ljava/lang/String;)Z")] 23

def k8m0 : Method := { name := "<init>", desc := "()V", sig := { parameters := [], returnType := none }, accessFlags := 2, code := none }
def k8c1 : Code := { maxStack := 2, maxLocals := 1, code := prog_17_method_2_code, exceptionTable := #[], attributes := #[] }
def k8m1 : Method := { name := "traceAsked", desc := "(Ljava/lang/String;)Z", sig := { parameters := [(.object "java/lang/String")], returnType := some .boolean }, accessFlags := 8, code := some k8c1 }
/-- com/example/marga/marga/cli/UnforeseenFailure -/
def k8 : Class := { plain "com/example/marga/marga/cli/UnforeseenFailure" (some 0) with
  accessFlags := 32
  interfaces := #[]
  cf := some (fileOf pool8 20 #[.nestMembers #[73]] #[{ accessFlags := 2, nameIndex := 5, descriptorIndex := 6, attributes := #[] }, { accessFlags := 8, nameIndex := 123, descriptorIndex := 124, attributes := #[] }] 32 2 #[] #[{ accessFlags := 24, nameIndex := 113, descriptorIndex := 114, attributes := #[] }, { accessFlags := 26, nameIndex := 56, descriptorIndex := 57, attributes := #[] }, { accessFlags := 26, nameIndex := 120, descriptorIndex := 114, attributes := #[] }])
  fields := #[{ name := "TRACE", type := (.object "java/lang/String"), accessFlags := 24, slot := 0, constantValue := 0 }, { name := "ERRORS", type := (.object "java/util/List"), accessFlags := 26, slot := 1, constantValue := 0 }, { name := "EXCEPTION", type := (.object "java/lang/String"), accessFlags := 26, slot := 2, constantValue := 0 }]
  methods := #[k8m0, k8m1]
  instanceTypes := #[]
  staticTypes := #[(.object "java/lang/String"), (.object "java/util/List"), (.object "java/lang/String")]
  resolved := Array.replicate 148 none
  statics := none }

def pool9 : Array CpInfo := pool [(6, .class_ 8), (1, u "java/lang/Object"), (0, u "<init>"), (0, u "()V"), (0, .methodref 12 13), (0, .class_ 14), (0, .nameAndType 15 16), (0, u "java/lang/StringUTF16"), (0, u "newBytesLength"), (0, u "(I)I"), (3, .integer 1073741823), (23, .fieldref 12 45), (0, .nameAndType 46 47), (0, u "$assertionsDisabled"), (0, u "Z"), (11, .fieldref 12 60), (0, .nameAndType 61 62), (0, u "HI_BYTE_SHIFT"), (0, u "I"), (0, .fieldref 12 64), (0, .nameAndType 65 62), (0, u "LO_BYTE_SHIFT"), (5, .methodref 12 72), (0, .nameAndType 73 74), (0, u "getChar"), (0, u "([BI)C"), (32, .methodref 12 108), (0, .nameAndType 109 110), (0, u "newBytesFor"), (0, u "(I)[B"), (0, .methodref 12 112), (0, .nameAndType 113 114), (0, u "putChar"), (0, u "([BII)V"), (0, .methodref 12 116), (0, .nameAndType 117 118), (0, u "compress"), (0, u "([CI[BII)I"), (0, .methodref 12 120), (0, .nameAndType 121 122), (0, u "toBytes"), (0, u "([CII)[B"), (138, u "coderFromArrayLen"), (0, u "([BI)B"), (106, .class_ 371), (1, u "java/lang/StringUTF16$LinesSpliterator"), (58, u "MAX_LENGTH"), (196, .class_ 628), (0, u "java/lang/StringUTF16$CodePointsSpliterator"), (0, .class_ 630), (0, u "java/lang/StringUTF16$CharsSpliterator")] 4

def k9m0 : Method := { name := "<init>", desc := "()V", sig := { parameters := [], returnType := none }, accessFlags := 0, code := none }
def k9c1 : Code := { maxStack := 1, maxLocals := 1, code := jdk_52_method_2_code, exceptionTable := #[], attributes := #[] }
def k9m1 : Method := { name := "newBytesFor", desc := "(I)[B", sig := { parameters := [.int], returnType := some (.array .byte) }, accessFlags := 9, code := some k9c1 }
def k9c2 : Code := { maxStack := 4, maxLocals := 1, code := jdk_52_method_3_code, exceptionTable := #[], attributes := #[] }
def k9m2 : Method := { name := "newBytesLength", desc := "(I)I", sig := { parameters := [.int], returnType := some .int }, accessFlags := 9, code := some k9c2 }
def k9c3 : Code := { maxStack := 4, maxLocals := 3, code := jdk_52_method_4_code, exceptionTable := #[], attributes := #[] }
def k9m3 : Method := { name := "putChar", desc := "([BII)V", sig := { parameters := [(.array .byte), .int, .int], returnType := none }, accessFlags := 8, code := some k9c3 }
def k9c4 : Code := { maxStack := 3, maxLocals := 2, code := jdk_52_method_5_code, exceptionTable := #[], attributes := #[] }
def k9m4 : Method := { name := "getChar", desc := "([BI)C", sig := { parameters := [(.array .byte), .int], returnType := some .char }, accessFlags := 8, code := some k9c4 }
def k9c5 : Code := { maxStack := 4, maxLocals := 5, code := jdk_52_method_14_code, exceptionTable := #[], attributes := #[] }
def k9m5 : Method := { name := "toBytes", desc := "([CII)[B", sig := { parameters := [(.array .char), .int, .int], returnType := some (.array .byte) }, accessFlags := 9, code := some k9c5 }
def k9c6 : Code := { maxStack := 2, maxLocals := 2, code := jdk_52_method_15_code, exceptionTable := #[], attributes := #[] }
def k9m6 : Method := { name := "coderFromArrayLen", desc := "([BI)B", sig := { parameters := [(.array .byte), .int], returnType := some .byte }, accessFlags := 8, code := some k9c6 }
def k9c7 : Code := { maxStack := 5, maxLocals := 6, code := jdk_52_method_16_code, exceptionTable := #[], attributes := #[] }
def k9m7 : Method := { name := "compress", desc := "([CII)[B", sig := { parameters := [(.array .char), .int, .int], returnType := some (.array .byte) }, accessFlags := 9, code := some k9c7 }
def k9c8 : Code := { maxStack := 3, maxLocals := 7, code := jdk_52_method_21_code, exceptionTable := #[], attributes := #[] }
def k9m8 : Method := { name := "compress", desc := "([CI[BII)I", sig := { parameters := [(.array .char), .int, (.array .byte), .int, .int], returnType := some .int }, accessFlags := 9, code := some k9c8 }
/-- java/lang/StringUTF16 -/
def k9 : Class := { plain "java/lang/StringUTF16" (some 0) with
  accessFlags := 48
  interfaces := #[]
  cf := some (fileOf pool9 12 #[.nestMembers #[627, 629, 369]] #[{ accessFlags := 0, nameIndex := 9, descriptorIndex := 10, attributes := #[] }, { accessFlags := 9, nameIndex := 109, descriptorIndex := 110, attributes := #[] }, { accessFlags := 9, nameIndex := 15, descriptorIndex := 16, attributes := #[] }, { accessFlags := 8, nameIndex := 113, descriptorIndex := 114, attributes := #[] }, { accessFlags := 8, nameIndex := 73, descriptorIndex := 74, attributes := #[] }, { accessFlags := 9, nameIndex := 121, descriptorIndex := 122, attributes := #[] }, { accessFlags := 8, nameIndex := 261, descriptorIndex := 262, attributes := #[] }, { accessFlags := 9, nameIndex := 117, descriptorIndex := 122, attributes := #[] }, { accessFlags := 9, nameIndex := 117, descriptorIndex := 118, attributes := #[] }] 48 6 #[] #[{ accessFlags := 26, nameIndex := 61, descriptorIndex := 62, attributes := #[] }, { accessFlags := 26, nameIndex := 65, descriptorIndex := 62, attributes := #[] }, { accessFlags := 24, nameIndex := 430, descriptorIndex := 62, attributes := #[] }, { accessFlags := 4120, nameIndex := 46, descriptorIndex := 47, attributes := #[] }])
  fields := #[{ name := "HI_BYTE_SHIFT", type := .int, accessFlags := 26, slot := 0, constantValue := 0 }, { name := "LO_BYTE_SHIFT", type := .int, accessFlags := 26, slot := 1, constantValue := 0 }, { name := "MAX_LENGTH", type := .int, accessFlags := 24, slot := 2, constantValue := 0 }, { name := "$assertionsDisabled", type := .boolean, accessFlags := 4120, slot := 3, constantValue := 0 }]
  methods := #[k9m0, k9m1, k9m2, k9m3, k9m4, k9m5, k9m6, k9m7, k9m8]
  instanceTypes := #[]
  staticTypes := #[.int, .int, .int, .boolean]
  resolved := Array.replicate 635 none
  statics := some 1 }

def pool10 : Array CpInfo := pool [(4, .class_ 6), (1, u "java/lang/Object"), (0, u "<init>"), (0, u "()V"), (5, .class_ 16), (1, u "java/lang/StringLatin1"), (104, u "$assertionsDisabled"), (0, u "Z"), (98, .class_ 223), (1, u "java/lang/StringLatin1$LinesSpliterator"), (57, u "equals"), (0, u "([B[B)Z"), (107, .class_ 391), (0, u "java/lang/StringLatin1$CharsSpliterator")] 3

def k10m0 : Method := { name := "<init>", desc := "()V", sig := { parameters := [], returnType := none }, accessFlags := 0, code := none }
def k10c1 : Code := { maxStack := 3, maxLocals := 3, code := jdk_43_method_13_code, exceptionTable := #[], attributes := #[] }
def k10m1 : Method := { name := "equals", desc := "([B[B)Z", sig := { parameters := [(.array .byte), (.array .byte)], returnType := some .boolean }, accessFlags := 9, code := some k10c1 }
/-- java/lang/StringLatin1 -/
def k10 : Class := { plain "java/lang/StringLatin1" (some 0) with
  accessFlags := 48
  interfaces := #[]
  cf := some (fileOf pool10 14 #[.nestMembers #[390, 221]] #[{ accessFlags := 0, nameIndex := 7, descriptorIndex := 8, attributes := #[] }, { accessFlags := 9, nameIndex := 281, descriptorIndex := 282, attributes := #[] }] 48 4 #[] #[{ accessFlags := 4120, nameIndex := 121, descriptorIndex := 122, attributes := #[] }])
  fields := #[{ name := "$assertionsDisabled", type := .boolean, accessFlags := 4120, slot := 0, constantValue := 0 }]
  methods := #[k10m0, k10m1]
  instanceTypes := #[]
  staticTypes := #[.boolean]
  resolved := Array.replicate 395 none
  statics := none }

def pool11 : Array CpInfo := pool [(2, .class_ 4), (1, u "java/lang/Object"), (0, u "<init>"), (0, u "()V"), (17, .class_ 26), (1, u "jdk/internal/util/Preconditions"), (28, .class_ 56), (0, u "jdk/internal/util/Preconditions$4"), (57, .class_ 115), (0, u "jdk/internal/util/Preconditions$1"), (7, u "SIOOBE_FORMATTER"), (0, u "Ljava/util/function/BiFunction;"), (0, .class_ 126), (0, u "jdk/internal/util/Preconditions$2"), (3, u "AIOOBE_FORMATTER"), (0, .class_ 132), (0, u "jdk/internal/util/Preconditions$3"), (3, u "IOOBE_FORMATTER")] 57

def k11m0 : Method := { name := "<init>", desc := "()V", sig := { parameters := [], returnType := none }, accessFlags := 1, code := none }
/-- jdk/internal/util/Preconditions -/
def k11 : Class := { plain "jdk/internal/util/Preconditions" (some 0) with
  accessFlags := 33
  interfaces := #[]
  cf := some (fileOf pool11 24 #[.nestMembers #[55, 131, 125, 114]] #[{ accessFlags := 1, nameIndex := 5, descriptorIndex := 6, attributes := #[] }] 33 2 #[] #[{ accessFlags := 25, nameIndex := 123, descriptorIndex := 124, attributes := #[] }, { accessFlags := 25, nameIndex := 130, descriptorIndex := 124, attributes := #[] }, { accessFlags := 25, nameIndex := 136, descriptorIndex := 124, attributes := #[] }])
  fields := #[{ name := "SIOOBE_FORMATTER", type := (.object "java/util/function/BiFunction"), accessFlags := 25, slot := 0, constantValue := 0 }, { name := "AIOOBE_FORMATTER", type := (.object "java/util/function/BiFunction"), accessFlags := 25, slot := 1, constantValue := 0 }, { name := "IOOBE_FORMATTER", type := (.object "java/util/function/BiFunction"), accessFlags := 25, slot := 2, constantValue := 0 }]
  methods := #[k11m0]
  instanceTypes := #[]
  staticTypes := #[(.object "java/util/function/BiFunction"), (.object "java/util/function/BiFunction"), (.object "java/util/function/BiFunction")]
  resolved := Array.replicate 194 none
  statics := some 2 }

def pool12 : Array CpInfo := pool [(9, u "<init>"), (6, .class_ 18), (1, u "java/lang/Object"), (0, u "()V"), (1, .class_ 23), (1, u "jdk/internal/util/ArraysSupport"), (0, u "LOG2_ARRAY_LONG_INDEX_SCALE"), (0, u "I"), (2, u "U"), (0, u "Ljdk/internal/misc/Unsafe;"), (8, u "BIG_ENDIAN"), (0, u "Z"), (8, u "LOG2_BYTE_BIT_SIZE"), (4, u "LOG2_ARRAY_INT_INDEX_SCALE"), (54, u "JLA"), (0, u "Ljdk/internal/access/JavaLangAccess;"), (11, u "LOG2_ARRAY_BOOLEAN_INDEX_SCALE"), (9, u "LOG2_ARRAY_BYTE_INDEX_SCALE"), (5, u "LOG2_ARRAY_CHAR_INDEX_SCALE"), (5, u "LOG2_ARRAY_SHORT_INDEX_SCALE"), (18, u "LOG2_ARRAY_FLOAT_INDEX_SCALE"), (24, u "LOG2_ARRAY_DOUBLE_INDEX_SCALE"), (89, u "T_BOOLEAN"), (2, u "T_CHAR"), (1, u "T_FLOAT"), (1, u "T_DOUBLE"), (1, u "T_BYTE"), (1, u "T_SHORT"), (1, u "T_INT"), (1, u "T_LONG"), (1, u "SOFT_MAX_ARRAY_LENGTH")] 83

def k12m0 : Method := { name := "<init>", desc := "()V", sig := { parameters := [], returnType := none }, accessFlags := 2, code := none }
/-- jdk/internal/util/ArraysSupport -/
def k12 : Class := { plain "jdk/internal/util/ArraysSupport" (some 0) with
  accessFlags := 33
  interfaces := #[]
  cf := some (fileOf pool12 21 #[] #[{ accessFlags := 2, nameIndex := 9, descriptorIndex := 19, attributes := #[] }] 33 16 #[] #[{ accessFlags := 24, nameIndex := 28, descriptorIndex := 29, attributes := #[] }, { accessFlags := 26, nameIndex := 38, descriptorIndex := 39, attributes := #[] }, { accessFlags := 25, nameIndex := 121, descriptorIndex := 25, attributes := #[] }, { accessFlags := 25, nameIndex := 131, descriptorIndex := 25, attributes := #[] }, { accessFlags := 25, nameIndex := 137, descriptorIndex := 25, attributes := #[] }, { accessFlags := 25, nameIndex := 143, descriptorIndex := 25, attributes := #[] }, { accessFlags := 25, nameIndex := 53, descriptorIndex := 25, attributes := #[] }, { accessFlags := 25, nameIndex := 24, descriptorIndex := 25, attributes := #[] }, { accessFlags := 25, nameIndex := 162, descriptorIndex := 25, attributes := #[] }, { accessFlags := 25, nameIndex := 187, descriptorIndex := 25, attributes := #[] }, { accessFlags := 26, nameIndex := 48, descriptorIndex := 25, attributes := #[] }, { accessFlags := 25, nameIndex := 277, descriptorIndex := 25, attributes := #[] }, { accessFlags := 25, nameIndex := 280, descriptorIndex := 25, attributes := #[] }, { accessFlags := 25, nameIndex := 282, descriptorIndex := 25, attributes := #[] }, { accessFlags := 25, nameIndex := 284, descriptorIndex := 25, attributes := #[] }, { accessFlags := 25, nameIndex := 286, descriptorIndex := 25, attributes := #[] }, { accessFlags := 25, nameIndex := 288, descriptorIndex := 25, attributes := #[] }, { accessFlags := 25, nameIndex := 290, descriptorIndex := 25, attributes := #[] }, { accessFlags := 25, nameIndex := 292, descriptorIndex := 25, attributes := #[] }, { accessFlags := 26, nameIndex := 108, descriptorIndex := 109, attributes := #[] }, { accessFlags := 25, nameIndex := 294, descriptorIndex := 25, attributes := #[] }])
  fields := #[{ name := "U", type := (.object "jdk/internal/misc/Unsafe"), accessFlags := 24, slot := 0, constantValue := 0 }, { name := "BIG_ENDIAN", type := .boolean, accessFlags := 26, slot := 1, constantValue := 0 }, { name := "LOG2_ARRAY_BOOLEAN_INDEX_SCALE", type := .int, accessFlags := 25, slot := 2, constantValue := 0 }, { name := "LOG2_ARRAY_BYTE_INDEX_SCALE", type := .int, accessFlags := 25, slot := 3, constantValue := 0 }, { name := "LOG2_ARRAY_CHAR_INDEX_SCALE", type := .int, accessFlags := 25, slot := 4, constantValue := 0 }, { name := "LOG2_ARRAY_SHORT_INDEX_SCALE", type := .int, accessFlags := 25, slot := 5, constantValue := 0 }, { name := "LOG2_ARRAY_INT_INDEX_SCALE", type := .int, accessFlags := 25, slot := 6, constantValue := 0 }, { name := "LOG2_ARRAY_LONG_INDEX_SCALE", type := .int, accessFlags := 25, slot := 7, constantValue := 0 }, { name := "LOG2_ARRAY_FLOAT_INDEX_SCALE", type := .int, accessFlags := 25, slot := 8, constantValue := 0 }, { name := "LOG2_ARRAY_DOUBLE_INDEX_SCALE", type := .int, accessFlags := 25, slot := 9, constantValue := 0 }, { name := "LOG2_BYTE_BIT_SIZE", type := .int, accessFlags := 26, slot := 10, constantValue := 0 }, { name := "T_BOOLEAN", type := .int, accessFlags := 25, slot := 11, constantValue := 0 }, { name := "T_CHAR", type := .int, accessFlags := 25, slot := 12, constantValue := 0 }, { name := "T_FLOAT", type := .int, accessFlags := 25, slot := 13, constantValue := 0 }, { name := "T_DOUBLE", type := .int, accessFlags := 25, slot := 14, constantValue := 0 }, { name := "T_BYTE", type := .int, accessFlags := 25, slot := 15, constantValue := 0 }, { name := "T_SHORT", type := .int, accessFlags := 25, slot := 16, constantValue := 0 }, { name := "T_INT", type := .int, accessFlags := 25, slot := 17, constantValue := 0 }, { name := "T_LONG", type := .int, accessFlags := 25, slot := 18, constantValue := 0 }, { name := "JLA", type := (.object "jdk/internal/access/JavaLangAccess"), accessFlags := 26, slot := 19, constantValue := 0 }, { name := "SOFT_MAX_ARRAY_LENGTH", type := .int, accessFlags := 25, slot := 20, constantValue := 0 }]
  methods := #[k12m0]
  instanceTypes := #[]
  staticTypes := #[(.object "jdk/internal/misc/Unsafe"), .boolean, .int, .int, .int, .int, .int, .int, .int, .int, .int, .int, .int, .int, .int, .int, .int, .int, .int, (.object "jdk/internal/access/JavaLangAccess"), .int]
  resolved := Array.replicate 378 none
  statics := none }

def pool13 : Array CpInfo := pool [(1, u "java/lang/Cloneable"), (0, .class_ 1), (0, u "java/lang/Object"), (0, .class_ 3)] 3

/-- java/lang/Cloneable -/
def k13 : Class := { plain "java/lang/Cloneable" (some 0) with
  accessFlags := 1537
  interfaces := #[]
  cf := some (fileOf pool13 2 #[] #[] 1537 4 #[] #[])
  fields := #[]
  methods := #[]
  instanceTypes := #[]
  staticTypes := #[]
  resolved := Array.replicate 8 none
  statics := none }

/-- the primitive byte -/
def k14 : Class := { plain "byte" none with kind := .primitive 'B', accessFlags := 0x411 }
/-- [B -/
def k15 : Class := { plain "[B" (some 0) with kind := .array 14 .byte, interfaces := #[13, 2], accessFlags := 1041 }

/-- the primitive char -/
def k16 : Class := { plain "char" none with kind := .primitive 'C', accessFlags := 0x411 }
/-- [C -/
def k17 : Class := { plain "[C" (some 0) with kind := .array 16 .char, interfaces := #[13, 2], accessFlags := 1041 }

/-- the primitive int -/
def k18 : Class := { plain "int" none with kind := .primitive 'I', accessFlags := 0x411 }
/-- [I -/
def k19 : Class := { plain "[I" (some 0) with kind := .array 18 .int, interfaces := #[13, 2], accessFlags := 1041 }

def heap : Heap := #[{ cls := 7, slots := #[.long 0, .int 1, .null, .int 0, .null, .int 0, .int 0], vm := .statics 7 },
  { cls := 9, slots := #[.int 0, .int 8, .int 0, .int 1], vm := .statics 9 },
  { cls := 11, slots := #[.null, .null, .null], vm := .statics 11 }]
def classes : Array Class := #[k0, k1, k2, k3, k4, k5, k6, k7, k8, k9, k10, k11, k12, k13, k14, k15, k16, k17, k18, k19]
def interned : List (Array UInt16 × Addr) := []
def slotsUsed : Nat := 14
def theMethod : MethodId := ⟨1, 2⟩
def args0 : Array Value := #[.int 5, .int 5, .int 5, .int 5]
def aboutOver (below : List Frame) : State where
  vm := { classes := classes, interned := interned.toArray }
  heap := heap
  slotsUsed := slotsUsed
  threads := #[{ frames := .invoking theMethod args0 :: below }]
def below0 : List Frame := [.native { method := ⟨0, 0⟩, args := #[] }]
def about1 : State := aboutOver below0
def p0 : Program := .bare "" "" ""
def e0 : Env := launch0.env 0 0 0
theorem w_frames : about1.frames = Frame.invoking theMethod args0 :: below0 := rfl
set_option maxRecDepth 65536 in
theorem w_args : argsFit about1.vm theMethod args0 = true := by decide +kernel
set_option maxRecDepth 65536 in
theorem w_heap : heapFits about1 = true := by decide +kernel
set_option maxRecDepth 65536 in
theorem w_runnable : about1.curStatus? = some .runnable := by decide +kernel
set_option maxRecDepth 65536 in
theorem w_alone : about1.alone = true := by decide +kernel
set_option maxRecDepth 65536 in
theorem w_named : about1.methodNamed? x = some theMethod := by decide +kernel
set_option maxRecDepth 65536 in
theorem w_hears : about1.hears theMethod below0 = true := by decide +kernel
set_option maxRecDepth 65536 in
theorem w_ripe : about1.ripe theMethod args0 below0 = true := by decide +kernel
theorem w_running : about1.status = .running := rfl
set_option maxRecDepth 65536 in
theorem w_room : about1.hasRoom e0.platform room_1 = true :=
  launch0.hasRoom_least _ room_1 (by decide +kernel) (by decide +kernel) (by decide +kernel) (by decide +kernel) (by decide +kernel) (by decide +kernel)
theorem allAtoms_all (ts : List Jvm.Cond) (a : Array Jvm.Value) (st : Jvm.State) : (allAtoms ts).before a st = ts.all (fun c => c.before a st) := by
  induction ts with
  | nil => rfl
  | cons c t ih =>
    show (Jvm.Cond.and c (allAtoms t)).before a st = _
    rw [Jvm.Cond.before_and, ih, List.all_cons]
def words1 : List Jvm.Cond := Jvm.Cond.code x code maxLocals ret :: tables_1
/-- a 'code' word, met by the world's own term for the bytes: nothing is compared byte by byte -/
theorem code_word {y : MethodName} {bytes : ByteArray} {mx : Nat} {rt : Option FieldType} {a : Array Value} {s : State} {m : MethodId} {meth : Method} {c : Code} (h1 : s.methodNamed? y = some m) (h2 : s.vm.method? m = some meth) (h3 : meth.code = some c) (h4 : c.code = bytes)
    (h5 : (c.maxLocals == mx && c.exceptionTable.isEmpty && decide (c.maxStack ≤ mostOperands) && decide (meth.sig.returnType = rt) && !meth.locks && decide (parseMethodDescriptor y.desc = some meth.sig)) = true) : (Jvm.Cond.code y bytes mx rt).before a s = true := by
  simp only [Bool.and_eq_true, beq_iff_eq, Bool.not_eq_true', decide_eq_true_eq] at h5
  obtain ⟨⟨⟨⟨⟨g1, g2⟩, g3⟩, g4⟩, g5⟩, g6⟩ := h5
  simp [Cond.before, Cond.holds, Cond.value, h1, h2, h3, h4, g1, g2, g3, g4, g5, g6]
def isCode : Jvm.Cond → Bool
  | .code _ _ _ _ => true
  | _ => false
theorem all_split {L : List Jvm.Cond} {P : Jvm.Cond → Bool} (h1 : L.all (fun c => isCode c || P c) = true) (h2 : ∀ c ∈ L.filter isCode, P c = true) : L.all P = true := by
  refine List.all_eq_true.mpr fun c hc => ?_
  have h := List.all_eq_true.mp h1 c hc
  rcases Bool.eq_false_or_eq_true (isCode c) with hi | hi
  · exact h2 c (List.mem_filter.mpr ⟨hc, hi⟩)
  · simpa [hi] using h
set_option maxRecDepth 65536 in
theorem w_c0 : (Jvm.Cond.code x code maxLocals ret).before args0 about1 = true := code_word (m := ⟨1, 2⟩) (meth := k1m2) (c := k1c2) (by decide +kernel) rfl rfl rfl (by decide +kernel)
set_option maxRecDepth 65536 in
theorem w_c1 : (Jvm.Cond.code ({ cls := "com/example/marga/marga/cli/UnforeseenFailureTraceAskedPinLaw", name := "make", desc := "(ICCC)Ljava/lang/String;" } : Jvm.MethodName) method_2_code (4 : Nat) (Option.some (Jvm.ClassFile.FieldType.object "java/lang/String"))).before args0 about1 = true := code_word (m := ⟨1, 1⟩) (meth := k1m1) (c := k1c1) (by decide +kernel) rfl rfl rfl (by decide +kernel)
set_option maxRecDepth 65536 in
theorem w_c2 : (Jvm.Cond.code ({ cls := "java/lang/String", name := "<init>", desc := "([C)V" } : Jvm.MethodName) jdk_42_method_3_code (2 : Nat) (Option.none : Option Jvm.ClassFile.FieldType)).before args0 about1 = true := code_word (m := ⟨7, 1⟩) (meth := k7m1) (c := k7c1) (by decide +kernel) rfl rfl rfl (by decide +kernel)
set_option maxRecDepth 65536 in
theorem w_c3 : (Jvm.Cond.code ({ cls := "java/lang/String", name := "<init>", desc := "([CIILjava/lang/Void;)V" } : Jvm.MethodName) jdk_42_method_149_code (6 : Nat) (Option.none : Option Jvm.ClassFile.FieldType)).before args0 about1 = true := code_word (m := ⟨7, 4⟩) (meth := k7m4) (c := k7c4) (by decide +kernel) rfl rfl rfl (by decide +kernel)
set_option maxRecDepth 65536 in
theorem w_c4 : (Jvm.Cond.code ({ cls := "java/lang/Object", name := "<init>", desc := "()V" } : Jvm.MethodName) object_method_1_code (1 : Nat) (Option.none : Option Jvm.ClassFile.FieldType)).before args0 about1 = true := code_word (m := ⟨0, 0⟩) (meth := k0m0) (c := k0c0) (by decide +kernel) rfl rfl rfl (by decide +kernel)
set_option maxRecDepth 65536 in
theorem w_c5 : (Jvm.Cond.code ({ cls := "com/example/marga/marga/cli/UnforeseenFailure", name := "traceAsked", desc := "(Ljava/lang/String;)Z" } : Jvm.MethodName) prog_17_method_2_code (1 : Nat) (Option.some Jvm.ClassFile.FieldType.boolean)).before args0 about1 = true := code_word (m := ⟨8, 1⟩) (meth := k8m1) (c := k8c1) (by decide +kernel) rfl rfl rfl (by decide +kernel)
set_option maxRecDepth 65536 in
theorem w_c6 : (Jvm.Cond.code ({ cls := "java/lang/String", name := "isEmpty", desc := "()Z" } : Jvm.MethodName) jdk_42_method_55_code (1 : Nat) (Option.some Jvm.ClassFile.FieldType.boolean)).before args0 about1 = true := code_word (m := ⟨7, 2⟩) (meth := k7m2) (c := k7c2) (by decide +kernel) rfl rfl rfl (by decide +kernel)
set_option maxRecDepth 65536 in
theorem w_c7 : (Jvm.Cond.code ({ cls := "java/lang/StringUTF16", name := "compress", desc := "([CII)[B" } : Jvm.MethodName) jdk_52_method_16_code (6 : Nat) (Option.some (Jvm.ClassFile.FieldType.array Jvm.ClassFile.FieldType.byte))).before args0 about1 = true := code_word (m := ⟨9, 7⟩) (meth := k9m7) (c := k9c7) (by decide +kernel) rfl rfl rfl (by decide +kernel)
set_option maxRecDepth 65536 in
theorem w_c8 : (Jvm.Cond.code ({ cls := "java/lang/StringUTF16", name := "compress", desc := "([CI[BII)I" } : Jvm.MethodName) jdk_52_method_21_code (7 : Nat) (Option.some Jvm.ClassFile.FieldType.int)).before args0 about1 = true := code_word (m := ⟨9, 8⟩) (meth := k9m8) (c := k9c8) (by decide +kernel) rfl rfl rfl (by decide +kernel)
set_option maxRecDepth 65536 in
theorem w_c9 : (Jvm.Cond.code ({ cls := "java/lang/StringUTF16", name := "coderFromArrayLen", desc := "([BI)B" } : Jvm.MethodName) jdk_52_method_15_code (2 : Nat) (Option.some Jvm.ClassFile.FieldType.byte)).before args0 about1 = true := code_word (m := ⟨9, 6⟩) (meth := k9m6) (c := k9c6) (by decide +kernel) rfl rfl rfl (by decide +kernel)
set_option maxRecDepth 65536 in
theorem w_c10 : (Jvm.Cond.code ({ cls := "java/lang/String", name := "equals", desc := "(Ljava/lang/Object;)Z" } : Jvm.MethodName) jdk_42_method_66_code (3 : Nat) (Option.some Jvm.ClassFile.FieldType.boolean)).before args0 about1 = true := code_word (m := ⟨7, 3⟩) (meth := k7m3) (c := k7c3) (by decide +kernel) rfl rfl rfl (by decide +kernel)
set_option maxRecDepth 65536 in
theorem w_c11 : (Jvm.Cond.code ({ cls := "java/lang/StringLatin1", name := "equals", desc := "([B[B)Z" } : Jvm.MethodName) jdk_43_method_13_code (3 : Nat) (Option.some Jvm.ClassFile.FieldType.boolean)).before args0 about1 = true := code_word (m := ⟨10, 1⟩) (meth := k10m1) (c := k10c1) (by decide +kernel) rfl rfl rfl (by decide +kernel)
set_option maxRecDepth 65536 in
theorem w_c12 : (Jvm.Cond.code ({ cls := "java/lang/StringUTF16", name := "toBytes", desc := "([CII)[B" } : Jvm.MethodName) jdk_52_method_14_code (5 : Nat) (Option.some (Jvm.ClassFile.FieldType.array Jvm.ClassFile.FieldType.byte))).before args0 about1 = true := code_word (m := ⟨9, 5⟩) (meth := k9m5) (c := k9c5) (by decide +kernel) rfl rfl rfl (by decide +kernel)
set_option maxRecDepth 65536 in
theorem w_c13 : (Jvm.Cond.code ({ cls := "java/lang/StringUTF16", name := "newBytesFor", desc := "(I)[B" } : Jvm.MethodName) jdk_52_method_2_code (1 : Nat) (Option.some (Jvm.ClassFile.FieldType.array Jvm.ClassFile.FieldType.byte))).before args0 about1 = true := code_word (m := ⟨9, 1⟩) (meth := k9m1) (c := k9c1) (by decide +kernel) rfl rfl rfl (by decide +kernel)
set_option maxRecDepth 65536 in
theorem w_c14 : (Jvm.Cond.code ({ cls := "java/lang/StringUTF16", name := "newBytesLength", desc := "(I)I" } : Jvm.MethodName) jdk_52_method_3_code (1 : Nat) (Option.some Jvm.ClassFile.FieldType.int)).before args0 about1 = true := code_word (m := ⟨9, 2⟩) (meth := k9m2) (c := k9c2) (by decide +kernel) rfl rfl rfl (by decide +kernel)
set_option maxRecDepth 65536 in
theorem w_c15 : (Jvm.Cond.code ({ cls := "java/lang/StringUTF16", name := "putChar", desc := "([BII)V" } : Jvm.MethodName) jdk_52_method_4_code (3 : Nat) (Option.none : Option Jvm.ClassFile.FieldType)).before args0 about1 = true := code_word (m := ⟨9, 3⟩) (meth := k9m3) (c := k9c3) (by decide +kernel) rfl rfl rfl (by decide +kernel)
set_option maxRecDepth 65536 in
theorem w_c16 : (Jvm.Cond.code ({ cls := "java/lang/StringUTF16", name := "getChar", desc := "([BI)C" } : Jvm.MethodName) jdk_52_method_5_code (2 : Nat) (Option.some Jvm.ClassFile.FieldType.char)).before args0 about1 = true := code_word (m := ⟨9, 4⟩) (meth := k9m4) (c := k9c4) (by decide +kernel) rfl rfl rfl (by decide +kernel)
def codes1 : List Jvm.Cond := [Jvm.Cond.code x code maxLocals ret, Jvm.Cond.code ({ cls := "com/example/marga/marga/cli/UnforeseenFailureTraceAskedPinLaw", name := "make", desc := "(ICCC)Ljava/lang/String;" } : Jvm.MethodName) method_2_code (4 : Nat) (Option.some (Jvm.ClassFile.FieldType.object "java/lang/String")), Jvm.Cond.code ({ cls := "java/lang/String", name := "<init>", desc := "([C)V" } : Jvm.MethodName) jdk_42_method_3_code (2 : Nat) (Option.none : Option Jvm.ClassFile.FieldType), Jvm.Cond.code ({ cls := "java/lang/String", name := "<init>", desc := "([CIILjava/lang/Void;)V" } : Jvm.MethodName) jdk_42_method_149_code (6 : Nat) (Option.none : Option Jvm.ClassFile.FieldType), Jvm.Cond.code ({ cls := "java/lang/Object", name := "<init>", desc := "()V" } : Jvm.MethodName) object_method_1_code (1 : Nat) (Option.none : Option Jvm.ClassFile.FieldType), Jvm.Cond.code ({ cls := "com/example/marga/marga/cli/UnforeseenFailure", name := "traceAsked", desc := "(Ljava/lang/String;)Z" } : Jvm.MethodName) prog_17_method_2_code (1 : Nat) (Option.some Jvm.ClassFile.FieldType.boolean), Jvm.Cond.code ({ cls := "java/lang/String", name := "isEmpty", desc := "()Z" } : Jvm.MethodName) jdk_42_method_55_code (1 : Nat) (Option.some Jvm.ClassFile.FieldType.boolean), Jvm.Cond.code ({ cls := "java/lang/StringUTF16", name := "compress", desc := "([CII)[B" } : Jvm.MethodName) jdk_52_method_16_code (6 : Nat) (Option.some (Jvm.ClassFile.FieldType.array Jvm.ClassFile.FieldType.byte)), Jvm.Cond.code ({ cls := "java/lang/StringUTF16", name := "compress", desc := "([CI[BII)I" } : Jvm.MethodName) jdk_52_method_21_code (7 : Nat) (Option.some Jvm.ClassFile.FieldType.int), Jvm.Cond.code ({ cls := "java/lang/StringUTF16", name := "coderFromArrayLen", desc := "([BI)B" } : Jvm.MethodName) jdk_52_method_15_code (2 : Nat) (Option.some Jvm.ClassFile.FieldType.byte), Jvm.Cond.code ({ cls := "java/lang/String", name := "equals", desc := "(Ljava/lang/Object;)Z" } : Jvm.MethodName) jdk_42_method_66_code (3 : Nat) (Option.some Jvm.ClassFile.FieldType.boolean), Jvm.Cond.code ({ cls := "java/lang/StringLatin1", name := "equals", desc := "([B[B)Z" } : Jvm.MethodName) jdk_43_method_13_code (3 : Nat) (Option.some Jvm.ClassFile.FieldType.boolean), Jvm.Cond.code ({ cls := "java/lang/StringUTF16", name := "toBytes", desc := "([CII)[B" } : Jvm.MethodName) jdk_52_method_14_code (5 : Nat) (Option.some (Jvm.ClassFile.FieldType.array Jvm.ClassFile.FieldType.byte)), Jvm.Cond.code ({ cls := "java/lang/StringUTF16", name := "newBytesFor", desc := "(I)[B" } : Jvm.MethodName) jdk_52_method_2_code (1 : Nat) (Option.some (Jvm.ClassFile.FieldType.array Jvm.ClassFile.FieldType.byte)), Jvm.Cond.code ({ cls := "java/lang/StringUTF16", name := "newBytesLength", desc := "(I)I" } : Jvm.MethodName) jdk_52_method_3_code (1 : Nat) (Option.some Jvm.ClassFile.FieldType.int), Jvm.Cond.code ({ cls := "java/lang/StringUTF16", name := "putChar", desc := "([BII)V" } : Jvm.MethodName) jdk_52_method_4_code (3 : Nat) (Option.none : Option Jvm.ClassFile.FieldType), Jvm.Cond.code ({ cls := "java/lang/StringUTF16", name := "getChar", desc := "([BI)C" } : Jvm.MethodName) jdk_52_method_5_code (2 : Nat) (Option.some Jvm.ClassFile.FieldType.char)]
set_option maxRecDepth 65536 in
theorem codes_eq : words1.filter isCode = codes1 := rfl
theorem w_codes : ∀ c ∈ words1.filter isCode, c.before args0 about1 = true := by
  rw [codes_eq]
  intro c hc
  simp only [codes1, List.mem_cons, List.not_mem_nil, or_false] at hc
  rcases hc with rfl | rfl | rfl | rfl | rfl | rfl | rfl | rfl | rfl | rfl | rfl | rfl | rfl | rfl | rfl | rfl | rfl
  · exact w_c0
  · exact w_c1
  · exact w_c2
  · exact w_c3
  · exact w_c4
  · exact w_c5
  · exact w_c6
  · exact w_c7
  · exact w_c8
  · exact w_c9
  · exact w_c10
  · exact w_c11
  · exact w_c12
  · exact w_c13
  · exact w_c14
  · exact w_c15
  · exact w_c16
set_option maxRecDepth 65536 in
theorem w_t1 : (words1.take 24).all (fun c => isCode c || c.before args0 about1) = true := by decide +kernel
set_option maxRecDepth 65536 in
theorem w_t2 : ((words1.drop 24).take 24).all (fun c => isCode c || c.before args0 about1) = true := by decide +kernel
set_option maxRecDepth 65536 in
theorem w_t3 : (((words1.drop 24).drop 24).take 24).all (fun c => isCode c || c.before args0 about1) = true := by decide +kernel
set_option maxRecDepth 65536 in
theorem w_t4 : (((words1.drop 24).drop 24).drop 24).all (fun c => isCode c || c.before args0 about1) = true := by decide +kernel
theorem w_tables : (allAtoms (Jvm.Cond.code x code maxLocals ret :: tables_1)).before args0 about1 = true := by
  rw [allAtoms_all]
  show words1.all (fun c => c.before args0 about1) = true
  refine all_split ?_ w_codes
  rw [← List.take_append_drop 24 words1, List.all_append, w_t1, ← List.take_append_drop 24 (words1.drop 24), List.all_append, w_t2, ← List.take_append_drop 24 ((words1.drop 24).drop 24), List.all_append, w_t3, w_t4]
  rfl
set_option maxRecDepth 65536 in
theorem w_rest : rest_1_c.before args0 about1 = true := by decide +kernel
set_option maxRecDepth 65536 in
theorem w_case : (Jvm.Cond.and given_1 narrow_1).before args0 about1 = true := by decide +kernel
set_option maxRecDepth 65536 in
theorem w_consts : constsHeld consts_1 about1 := Jvm.Lit.constsHeldB_iff.mp (by decide +kernel)
theorem w_applies : (headSpec (Jvm.Cond.code x code maxLocals ret :: tables_1) room_1).applies x e0.platform about1 = true :=
  (Spec.applies_iff w_frames).mpr ⟨w_running, w_runnable, w_alone, w_named, w_hears, w_ripe, w_room, w_tables⟩
theorem atStart : AtStart classFile x code maxLocals ret World_1 tables_1 room_1 Calls_1 rest_1 Pre_1 launch0 p0 e0 about1 theMethod args0 below0 :=
  ⟨lists_1, trivial, launch0.admits_env _ _ _, launch0.least_env, fairChoices_fair.cas, fairChoices_fair.clock, w_frames, w_args, w_heap, w_applies, ⟨w_consts, trivial⟩, w_rest, w_case⟩
end start1
theorem witness_1 : WitnessClaimed_1 := ⟨start1.p0, start1.e0, start1.about1, start1.theMethod, start1.args0, start1.below0, start1.atStart⟩
end Jvm.Pilot.@@N@@
