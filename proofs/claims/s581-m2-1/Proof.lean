import JvmDerived
import JvmDerived.Pilot.@@N@@Statement
import JvmDerived.Pilot.@@N@@Code
set_option linter.unusedVariables false
set_option linter.unusedSimpArgs false
namespace Jvm.RoadKit
open Sem ClassFile Op Lib Jvm.Stand Jvm.Free Jvm.LawKit
section New
variable {p : Program} {l : Launch} {e : Env} {R : Room} {s : State} {m : MethodId} {args : Array Value} {below : List Frame} {meth : Method} {c : Code} {T : State} {locs : List Loc} {cells slots : Nat}
theorem retI (X : Stand p l e R s m args below meth c T locs cells slots) (hx : p.tables.exec = Jvm.exec) {pc : Nat} {Ls : Array Slot} {z : Int32} {rest : List Value} (hret : meth.sig.returnType = some .int) (hd : decode c.code pc = .ok (.ireturn, 1)) {fs : List Frame}
    (hl : ∀ (f : JFrame) (acts : List Action), f.method = m → f.locked = none → f.entered = [] → (doReturn e (T.setTop f) acts (some (.int z))).1 = T.setFrames fs) : Steps p.tables e below (T.setTop (mkF m pc Ls (.int z :: rest))) (T.setFrames fs) := by
  have hm' : T.vm.method? m = some meth := X.method'
  have hn : narrow .int (.int z) = .int z := rfl
  show Steps p.tables e below (T.setTop { method := m, pc := pc, locals := Ls, stack := _ :: rest, locked := none }) _
  jvm_step X.here [X.here.top, hx, hd, hm', hret, hn]
  first | (intro acts; rw [hl _ acts rfl rfl rfl]) | rw [hl _ _ rfl rfl rfl]
  exact Steps.refl _
theorem own_to {L' : List Loc} {k' n' : Nat} (X : Stand p l e R s m args below meth c T locs cells slots) (a : locs = L') (b : cells = k') (d : slots = n') : Stand p l e R s m args below meth c T L' k' n' := by
  subst a b d
  exact X
end New
end Jvm.RoadKit
namespace Jvm.Pilot.@@N@@
open Jvm Jvm.ClassFile Sem Op Lib Jvm.Free Jvm.Stand Jvm.LawKit Jvm.RoadKit Bundle Jvm.Pilot.@@N@@.Jvm.D
theorem ef_rm1 (m : MethodId) (x0 : Addr) : entryFrame m #[(.ref x0)] 1 = mkF m 0 #[.val (.ref x0)] [] := by first | (simp [entryFrame, mkF, argsToLocals, Value.category]; done) | rfl
theorem d_prog_27_method_7_0 : decode prog_27_method_7_code 0 = .ok (.aload_n 0, 1) := by decide +kernel
theorem d_prog_27_method_7_1 : decode prog_27_method_7_code 1 = .ok (.getfield 81, 3) := by decide +kernel
theorem d_prog_27_method_7_4 : decode prog_27_method_7_code 4 = .ok (.getstatic 126, 3) := by decide +kernel
theorem d_prog_27_method_7_7 : decode prog_27_method_7_code 7 = .ok (.if_acmp .eq 20, 3) := by decide +kernel
theorem d_prog_27_method_7_27 : decode prog_27_method_7_code 27 = .ok (.iconst 1, 1) := by decide +kernel
theorem d_prog_27_method_7_28 : decode prog_27_method_7_code 28 = .ok (.goto 4, 3) := by decide +kernel
theorem d_prog_27_method_7_32 : decode prog_27_method_7_code 32 = .ok (.ireturn, 1) := by decide +kernel
theorem d_prog_27_method_7_10 : decode prog_27_method_7_code 10 = .ok (.aload_n 0, 1) := by decide +kernel
theorem d_prog_27_method_7_11 : decode prog_27_method_7_code 11 = .ok (.getfield 81, 3) := by decide +kernel
theorem d_prog_27_method_7_14 : decode prog_27_method_7_code 14 = .ok (.getstatic 131, 3) := by decide +kernel
theorem d_prog_27_method_7_17 : decode prog_27_method_7_code 17 = .ok (.if_acmp .ne 14, 3) := by decide +kernel
theorem d_prog_27_method_7_20 : decode prog_27_method_7_code 20 = .ok (.aload_n 0, 1) := by decide +kernel
theorem d_prog_27_method_7_21 : decode prog_27_method_7_code 21 = .ok (.getstatic 55, 3) := by decide +kernel
theorem d_prog_27_method_7_24 : decode prog_27_method_7_code 24 = .ok (.if_acmp .eq 7, 3) := by decide +kernel
theorem d_prog_27_method_7_31 : decode prog_27_method_7_code 31 = .ok (.iconst 0, 1) := by decide +kernel
theorem pn_0 : plainName "com/example/rows_by_rule/rowsbyrule/query/FieldOperator" = true := by first | (simp [plainName, overriddenIn]; done) | decide +kernel
theorem ef_rm0 (m : MethodId) (x0 : Int32) : entryFrame m #[(.int x0)] maxLocals = mkF m 0 #[.val (.int x0), .unset, .unset, .unset] [] := by first | (simp [entryFrame, mkF, argsToLocals, Value.category, maxLocals]; done) | rfl
theorem pd_0 : parseMethodDescriptor "()Z" = some ⟨[], some .boolean⟩ := by decide +kernel
theorem pn_1 : plainName "com/example/rows_by_rule/rowsbyrule/query/FieldOperatorTakesSubqueryPinLaw" = true := by first | (simp [plainName, overriddenIn]; done) | decide +kernel
theorem own_fld_ref {args : Array Value} {s : State} {t u : Term} {O n d : String} {x y : Addr} (h : (Cond.eq (.field t O n d) u).value args s none s [] = some true) (ht : t.eval args s none [] s = some (.ref x)) (hu : u.eval args s none [] s = some (.ref y)) : Fld s s.heap x O n d (.ref y) := by
  obtain ⟨p, q, e1, e2, k1, k2⟩ := cmp_v (Or.inl h)
  cases hu.symm.trans e2
  have hp : p.isRef = true := (show (Value.ref y).isRef = true ∧ p.isRef = true from k2).2
  have hq := gotT (eq_R e1 hu hp rfl) h
  subst hq
  exact Fld.start ((fld_at ht).symm.trans e1)
def SB (Z : State) (a_EQ : Addr) (a_NE : Addr) (a_GT : Addr) (a_GE : Addr) (a_LT : Addr) (a_LE : Addr) (a_IN : Addr) (a_NOT_IN : Addr) (a_NULL : Addr) (a_LIKE : Addr) (a_NOT_LIKE : Addr) (a_START : Addr) (a_NOT_START : Addr) (a_END : Addr) (a_NOT_END : Addr) (a_CONTAIN : Addr) (a_NOT_CONTAIN : Addr) (a_RX : Addr) (a_COMPARISON : Addr) (a_LIST : Addr) (a_PATTERN : Addr) (a_NULL_TEST : Addr) : Prop := (Exa Z Z.heap a_EQ "com/example/rows_by_rule/rowsbyrule/query/FieldOperator") ∧ (Sta Z Z.heap "com/example/rows_by_rule/rowsbyrule/query/FieldOperator" "EQ" "Lcom/example/rows_by_rule/rowsbyrule/query/FieldOperator;" (.ref a_EQ)) ∧ (Exa Z Z.heap a_NE "com/example/rows_by_rule/rowsbyrule/query/FieldOperator") ∧ (Sta Z Z.heap "com/example/rows_by_rule/rowsbyrule/query/FieldOperator" "NE" "Lcom/example/rows_by_rule/rowsbyrule/query/FieldOperator;" (.ref a_NE)) ∧ (Exa Z Z.heap a_GT "com/example/rows_by_rule/rowsbyrule/query/FieldOperator") ∧ (Sta Z Z.heap "com/example/rows_by_rule/rowsbyrule/query/FieldOperator" "GT" "Lcom/example/rows_by_rule/rowsbyrule/query/FieldOperator;" (.ref a_GT)) ∧ (Exa Z Z.heap a_GE "com/example/rows_by_rule/rowsbyrule/query/FieldOperator") ∧ (Sta Z Z.heap "com/example/rows_by_rule/rowsbyrule/query/FieldOperator" "GE" "Lcom/example/rows_by_rule/rowsbyrule/query/FieldOperator;" (.ref a_GE)) ∧ (Exa Z Z.heap a_LT "com/example/rows_by_rule/rowsbyrule/query/FieldOperator") ∧ (Sta Z Z.heap "com/example/rows_by_rule/rowsbyrule/query/FieldOperator" "LT" "Lcom/example/rows_by_rule/rowsbyrule/query/FieldOperator;" (.ref a_LT)) ∧ (Exa Z Z.heap a_LE "com/example/rows_by_rule/rowsbyrule/query/FieldOperator") ∧ (Sta Z Z.heap "com/example/rows_by_rule/rowsbyrule/query/FieldOperator" "LE" "Lcom/example/rows_by_rule/rowsbyrule/query/FieldOperator;" (.ref a_LE)) ∧ (Exa Z Z.heap a_IN "com/example/rows_by_rule/rowsbyrule/query/FieldOperator") ∧ (Sta Z Z.heap "com/example/rows_by_rule/rowsbyrule/query/FieldOperator" "IN" "Lcom/example/rows_by_rule/rowsbyrule/query/FieldOperator;" (.ref a_IN)) ∧ (Exa Z Z.heap a_NOT_IN "com/example/rows_by_rule/rowsbyrule/query/FieldOperator") ∧ (Sta Z Z.heap "com/example/rows_by_rule/rowsbyrule/query/FieldOperator" "NOT_IN" "Lcom/example/rows_by_rule/rowsbyrule/query/FieldOperator;" (.ref a_NOT_IN)) ∧ (Exa Z Z.heap a_NULL "com/example/rows_by_rule/rowsbyrule/query/FieldOperator") ∧ (Sta Z Z.heap "com/example/rows_by_rule/rowsbyrule/query/FieldOperator" "NULL" "Lcom/example/rows_by_rule/rowsbyrule/query/FieldOperator;" (.ref a_NULL)) ∧ (Exa Z Z.heap a_LIKE "com/example/rows_by_rule/rowsbyrule/query/FieldOperator") ∧ (Sta Z Z.heap "com/example/rows_by_rule/rowsbyrule/query/FieldOperator" "LIKE" "Lcom/example/rows_by_rule/rowsbyrule/query/FieldOperator;" (.ref a_LIKE)) ∧ (Exa Z Z.heap a_NOT_LIKE "com/example/rows_by_rule/rowsbyrule/query/FieldOperator") ∧ (Sta Z Z.heap "com/example/rows_by_rule/rowsbyrule/query/FieldOperator" "NOT_LIKE" "Lcom/example/rows_by_rule/rowsbyrule/query/FieldOperator;" (.ref a_NOT_LIKE)) ∧ (Exa Z Z.heap a_START "com/example/rows_by_rule/rowsbyrule/query/FieldOperator") ∧ (Sta Z Z.heap "com/example/rows_by_rule/rowsbyrule/query/FieldOperator" "START" "Lcom/example/rows_by_rule/rowsbyrule/query/FieldOperator;" (.ref a_START)) ∧ (Exa Z Z.heap a_NOT_START "com/example/rows_by_rule/rowsbyrule/query/FieldOperator") ∧ (Sta Z Z.heap "com/example/rows_by_rule/rowsbyrule/query/FieldOperator" "NOT_START" "Lcom/example/rows_by_rule/rowsbyrule/query/FieldOperator;" (.ref a_NOT_START)) ∧ (Exa Z Z.heap a_END "com/example/rows_by_rule/rowsbyrule/query/FieldOperator") ∧ (Sta Z Z.heap "com/example/rows_by_rule/rowsbyrule/query/FieldOperator" "END" "Lcom/example/rows_by_rule/rowsbyrule/query/FieldOperator;" (.ref a_END)) ∧ (Exa Z Z.heap a_NOT_END "com/example/rows_by_rule/rowsbyrule/query/FieldOperator") ∧ (Sta Z Z.heap "com/example/rows_by_rule/rowsbyrule/query/FieldOperator" "NOT_END" "Lcom/example/rows_by_rule/rowsbyrule/query/FieldOperator;" (.ref a_NOT_END)) ∧ (Exa Z Z.heap a_CONTAIN "com/example/rows_by_rule/rowsbyrule/query/FieldOperator") ∧ (Sta Z Z.heap "com/example/rows_by_rule/rowsbyrule/query/FieldOperator" "CONTAIN" "Lcom/example/rows_by_rule/rowsbyrule/query/FieldOperator;" (.ref a_CONTAIN)) ∧ (Exa Z Z.heap a_NOT_CONTAIN "com/example/rows_by_rule/rowsbyrule/query/FieldOperator") ∧ (Sta Z Z.heap "com/example/rows_by_rule/rowsbyrule/query/FieldOperator" "NOT_CONTAIN" "Lcom/example/rows_by_rule/rowsbyrule/query/FieldOperator;" (.ref a_NOT_CONTAIN)) ∧ (Exa Z Z.heap a_RX "com/example/rows_by_rule/rowsbyrule/query/FieldOperator") ∧ (Sta Z Z.heap "com/example/rows_by_rule/rowsbyrule/query/FieldOperator" "RX" "Lcom/example/rows_by_rule/rowsbyrule/query/FieldOperator;" (.ref a_RX)) ∧ (Exa Z Z.heap a_COMPARISON "com/example/rows_by_rule/rowsbyrule/query/FieldOperator$Shape") ∧ (Sta Z Z.heap "com/example/rows_by_rule/rowsbyrule/query/FieldOperator$Shape" "COMPARISON" "Lcom/example/rows_by_rule/rowsbyrule/query/FieldOperator$Shape;" (.ref a_COMPARISON)) ∧ (Fld Z Z.heap a_EQ "com/example/rows_by_rule/rowsbyrule/query/FieldOperator" "shape" "Lcom/example/rows_by_rule/rowsbyrule/query/FieldOperator$Shape;" (.ref a_COMPARISON)) ∧ (Exa Z Z.heap a_LIST "com/example/rows_by_rule/rowsbyrule/query/FieldOperator$Shape") ∧ (Sta Z Z.heap "com/example/rows_by_rule/rowsbyrule/query/FieldOperator$Shape" "LIST" "Lcom/example/rows_by_rule/rowsbyrule/query/FieldOperator$Shape;" (.ref a_LIST)) ∧ (Fld Z Z.heap a_COMPARISON "java/lang/Enum" "ordinal" "I" (.int (0 : Int32))) ∧ (Fld Z Z.heap a_LIST "java/lang/Enum" "ordinal" "I" (.int (1 : Int32))) ∧ (Fld Z Z.heap a_EQ "java/lang/Enum" "ordinal" "I" (.int (0 : Int32))) ∧ (Fld Z Z.heap a_RX "java/lang/Enum" "ordinal" "I" (.int (17 : Int32))) ∧ (Fld Z Z.heap a_GE "com/example/rows_by_rule/rowsbyrule/query/FieldOperator" "shape" "Lcom/example/rows_by_rule/rowsbyrule/query/FieldOperator$Shape;" (.ref a_COMPARISON)) ∧ (Fld Z Z.heap a_GE "java/lang/Enum" "ordinal" "I" (.int (3 : Int32))) ∧ (Fld Z Z.heap a_GT "com/example/rows_by_rule/rowsbyrule/query/FieldOperator" "shape" "Lcom/example/rows_by_rule/rowsbyrule/query/FieldOperator$Shape;" (.ref a_COMPARISON)) ∧ (Fld Z Z.heap a_GT "java/lang/Enum" "ordinal" "I" (.int (2 : Int32))) ∧ (Fld Z Z.heap a_NE "com/example/rows_by_rule/rowsbyrule/query/FieldOperator" "shape" "Lcom/example/rows_by_rule/rowsbyrule/query/FieldOperator$Shape;" (.ref a_COMPARISON)) ∧ (Fld Z Z.heap a_NE "java/lang/Enum" "ordinal" "I" (.int (1 : Int32))) ∧ (Fld Z Z.heap a_NOT_IN "com/example/rows_by_rule/rowsbyrule/query/FieldOperator" "shape" "Lcom/example/rows_by_rule/rowsbyrule/query/FieldOperator$Shape;" (.ref a_LIST)) ∧ (Exa Z Z.heap a_PATTERN "com/example/rows_by_rule/rowsbyrule/query/FieldOperator$Shape") ∧ (Sta Z Z.heap "com/example/rows_by_rule/rowsbyrule/query/FieldOperator$Shape" "PATTERN" "Lcom/example/rows_by_rule/rowsbyrule/query/FieldOperator$Shape;" (.ref a_PATTERN)) ∧ (Fld Z Z.heap a_START "com/example/rows_by_rule/rowsbyrule/query/FieldOperator" "shape" "Lcom/example/rows_by_rule/rowsbyrule/query/FieldOperator$Shape;" (.ref a_PATTERN)) ∧ (Fld Z Z.heap a_PATTERN "java/lang/Enum" "ordinal" "I" (.int (3 : Int32))) ∧ (Fld Z Z.heap a_LT "com/example/rows_by_rule/rowsbyrule/query/FieldOperator" "shape" "Lcom/example/rows_by_rule/rowsbyrule/query/FieldOperator$Shape;" (.ref a_COMPARISON)) ∧ (Fld Z Z.heap a_LT "java/lang/Enum" "ordinal" "I" (.int (4 : Int32))) ∧ (Exa Z Z.heap a_NULL_TEST "com/example/rows_by_rule/rowsbyrule/query/FieldOperator$Shape") ∧ (Sta Z Z.heap "com/example/rows_by_rule/rowsbyrule/query/FieldOperator$Shape" "NULL_TEST" "Lcom/example/rows_by_rule/rowsbyrule/query/FieldOperator$Shape;" (.ref a_NULL_TEST)) ∧ (Fld Z Z.heap a_NULL "com/example/rows_by_rule/rowsbyrule/query/FieldOperator" "shape" "Lcom/example/rows_by_rule/rowsbyrule/query/FieldOperator$Shape;" (.ref a_NULL_TEST)) ∧ (Fld Z Z.heap a_NULL_TEST "java/lang/Enum" "ordinal" "I" (.int (2 : Int32))) ∧ (Fld Z Z.heap a_NOT_START "com/example/rows_by_rule/rowsbyrule/query/FieldOperator" "shape" "Lcom/example/rows_by_rule/rowsbyrule/query/FieldOperator$Shape;" (.ref a_PATTERN)) ∧ (Fld Z Z.heap a_NOT_CONTAIN "com/example/rows_by_rule/rowsbyrule/query/FieldOperator" "shape" "Lcom/example/rows_by_rule/rowsbyrule/query/FieldOperator$Shape;" (.ref a_PATTERN)) ∧ (Fld Z Z.heap a_CONTAIN "com/example/rows_by_rule/rowsbyrule/query/FieldOperator" "shape" "Lcom/example/rows_by_rule/rowsbyrule/query/FieldOperator$Shape;" (.ref a_PATTERN)) ∧ (Fld Z Z.heap a_NOT_LIKE "com/example/rows_by_rule/rowsbyrule/query/FieldOperator" "shape" "Lcom/example/rows_by_rule/rowsbyrule/query/FieldOperator$Shape;" (.ref a_PATTERN)) ∧ (Fld Z Z.heap a_END "com/example/rows_by_rule/rowsbyrule/query/FieldOperator" "shape" "Lcom/example/rows_by_rule/rowsbyrule/query/FieldOperator$Shape;" (.ref a_PATTERN)) ∧ (Fld Z Z.heap a_IN "com/example/rows_by_rule/rowsbyrule/query/FieldOperator" "shape" "Lcom/example/rows_by_rule/rowsbyrule/query/FieldOperator$Shape;" (.ref a_LIST)) ∧ (Fld Z Z.heap a_RX "com/example/rows_by_rule/rowsbyrule/query/FieldOperator" "shape" "Lcom/example/rows_by_rule/rowsbyrule/query/FieldOperator$Shape;" (.ref a_COMPARISON)) ∧ (Fld Z Z.heap a_NOT_END "com/example/rows_by_rule/rowsbyrule/query/FieldOperator" "shape" "Lcom/example/rows_by_rule/rowsbyrule/query/FieldOperator$Shape;" (.ref a_PATTERN)) ∧ (Fld Z Z.heap a_LE "com/example/rows_by_rule/rowsbyrule/query/FieldOperator" "shape" "Lcom/example/rows_by_rule/rowsbyrule/query/FieldOperator$Shape;" (.ref a_COMPARISON)) ∧ (Fld Z Z.heap a_LE "java/lang/Enum" "ordinal" "I" (.int (5 : Int32))) ∧ (Fld Z Z.heap a_LIKE "com/example/rows_by_rule/rowsbyrule/query/FieldOperator" "shape" "Lcom/example/rows_by_rule/rowsbyrule/query/FieldOperator$Shape;" (.ref a_PATTERN))
theorem own_mod18 (p : Int32) : ((p &&& (2147483647 : Int32)) % (18 : Int32)) = (0 : Int32) ∨ ((p &&& (2147483647 : Int32)) % (18 : Int32)) = (1 : Int32) ∨ ((p &&& (2147483647 : Int32)) % (18 : Int32)) = (2 : Int32) ∨ ((p &&& (2147483647 : Int32)) % (18 : Int32)) = (3 : Int32) ∨ ((p &&& (2147483647 : Int32)) % (18 : Int32)) = (4 : Int32) ∨ ((p &&& (2147483647 : Int32)) % (18 : Int32)) = (5 : Int32) ∨ ((p &&& (2147483647 : Int32)) % (18 : Int32)) = (6 : Int32) ∨ ((p &&& (2147483647 : Int32)) % (18 : Int32)) = (7 : Int32) ∨ ((p &&& (2147483647 : Int32)) % (18 : Int32)) = (8 : Int32) ∨ ((p &&& (2147483647 : Int32)) % (18 : Int32)) = (9 : Int32) ∨ ((p &&& (2147483647 : Int32)) % (18 : Int32)) = (10 : Int32) ∨ ((p &&& (2147483647 : Int32)) % (18 : Int32)) = (11 : Int32) ∨ ((p &&& (2147483647 : Int32)) % (18 : Int32)) = (12 : Int32) ∨ ((p &&& (2147483647 : Int32)) % (18 : Int32)) = (13 : Int32) ∨ ((p &&& (2147483647 : Int32)) % (18 : Int32)) = (14 : Int32) ∨ ((p &&& (2147483647 : Int32)) % (18 : Int32)) = (15 : Int32) ∨ ((p &&& (2147483647 : Int32)) % (18 : Int32)) = (16 : Int32) ∨ ((p &&& (2147483647 : Int32)) % (18 : Int32)) = (17 : Int32) := by
  have h1 : ((p &&& (2147483647 : Int32)).toInt) = p.toInt % (2 ^ 31 : Nat) := c_mask p 2147483647 31 (by decide) (by decide)
  have h2 := (c_irem (p &&& (2147483647 : Int32)) (18 : Int32) 18 (by decide)).1 (by rw [h1]; omega)
  generalize (p &&& (2147483647 : Int32)) % (18 : Int32) = z at *
  have h3 : 0 ≤ z.toInt ∧ z.toInt < 18 := by omega
  have key : ∀ k : Int32, z.toInt = k.toInt → z = k := fun k h => Int32.toInt_inj.mp h
  by_cases h0_ : z.toInt = 0
  · exact Or.inl (key _ h0_)
  by_cases h1_ : z.toInt = 1
  · exact Or.inr (Or.inl (key _ h1_))
  by_cases h2_ : z.toInt = 2
  · exact Or.inr (Or.inr (Or.inl (key _ h2_)))
  by_cases h3_ : z.toInt = 3
  · exact Or.inr (Or.inr (Or.inr (Or.inl (key _ h3_))))
  by_cases h4_ : z.toInt = 4
  · exact Or.inr (Or.inr (Or.inr (Or.inr (Or.inl (key _ h4_)))))
  by_cases h5_ : z.toInt = 5
  · exact Or.inr (Or.inr (Or.inr (Or.inr (Or.inr (Or.inl (key _ h5_))))))
  by_cases h6_ : z.toInt = 6
  · exact Or.inr (Or.inr (Or.inr (Or.inr (Or.inr (Or.inr (Or.inl (key _ h6_)))))))
  by_cases h7_ : z.toInt = 7
  · exact Or.inr (Or.inr (Or.inr (Or.inr (Or.inr (Or.inr (Or.inr (Or.inl (key _ h7_))))))))
  by_cases h8_ : z.toInt = 8
  · exact Or.inr (Or.inr (Or.inr (Or.inr (Or.inr (Or.inr (Or.inr (Or.inr (Or.inl (key _ h8_)))))))))
  by_cases h9_ : z.toInt = 9
  · exact Or.inr (Or.inr (Or.inr (Or.inr (Or.inr (Or.inr (Or.inr (Or.inr (Or.inr (Or.inl (key _ h9_))))))))))
  by_cases h10_ : z.toInt = 10
  · exact Or.inr (Or.inr (Or.inr (Or.inr (Or.inr (Or.inr (Or.inr (Or.inr (Or.inr (Or.inr (Or.inl (key _ h10_)))))))))))
  by_cases h11_ : z.toInt = 11
  · exact Or.inr (Or.inr (Or.inr (Or.inr (Or.inr (Or.inr (Or.inr (Or.inr (Or.inr (Or.inr (Or.inr (Or.inl (key _ h11_))))))))))))
  by_cases h12_ : z.toInt = 12
  · exact Or.inr (Or.inr (Or.inr (Or.inr (Or.inr (Or.inr (Or.inr (Or.inr (Or.inr (Or.inr (Or.inr (Or.inr (Or.inl (key _ h12_)))))))))))))
  by_cases h13_ : z.toInt = 13
  · exact Or.inr (Or.inr (Or.inr (Or.inr (Or.inr (Or.inr (Or.inr (Or.inr (Or.inr (Or.inr (Or.inr (Or.inr (Or.inr (Or.inl (key _ h13_))))))))))))))
  by_cases h14_ : z.toInt = 14
  · exact Or.inr (Or.inr (Or.inr (Or.inr (Or.inr (Or.inr (Or.inr (Or.inr (Or.inr (Or.inr (Or.inr (Or.inr (Or.inr (Or.inr (Or.inl (key _ h14_)))))))))))))))
  by_cases h15_ : z.toInt = 15
  · exact Or.inr (Or.inr (Or.inr (Or.inr (Or.inr (Or.inr (Or.inr (Or.inr (Or.inr (Or.inr (Or.inr (Or.inr (Or.inr (Or.inr (Or.inr (Or.inl (key _ h15_))))))))))))))))
  by_cases h16_ : z.toInt = 16
  · exact Or.inr (Or.inr (Or.inr (Or.inr (Or.inr (Or.inr (Or.inr (Or.inr (Or.inr (Or.inr (Or.inr (Or.inr (Or.inr (Or.inr (Or.inr (Or.inr (Or.inl (key _ h16_)))))))))))))))))
  by_cases h17_ : z.toInt = 17
  · exact Or.inr (Or.inr (Or.inr (Or.inr (Or.inr (Or.inr (Or.inr (Or.inr (Or.inr (Or.inr (Or.inr (Or.inr (Or.inr (Or.inr (Or.inr (Or.inr (Or.inr (key _ h17_)))))))))))))))))
  omega
def Q1 (r : Int32) (h0 : Heap) (n0 : Nat) (v : Option Value) (h : Heap) (L : List Loc) : Prop := v = some (.int r) ∧ Fr n0 L ∧ h = h0
def Q0 (n0 : Nat) (v : Option Value) (h : Heap) (L : List Loc) : Prop := v = some (.int 1) ∧ Fr n0 L
set_option maxRecDepth 65536 in
set_option maxHeartbeats 40000000 in
theorem rm1 (l : Launch) (Z : State) (a0 : Array Value) (hw : ∀ d ∈ tables_1, d.before a0 Z = true) (ws : List Jvm.Cond) (a_EQ : Addr) (a_NE : Addr) (a_GT : Addr) (a_GE : Addr) (a_LT : Addr) (a_LE : Addr) (a_IN : Addr) (a_NOT_IN : Addr) (a_NULL : Addr) (a_LIKE : Addr) (a_NOT_LIKE : Addr) (a_START : Addr) (a_NOT_START : Addr) (a_END : Addr) (a_NOT_END : Addr) (a_CONTAIN : Addr) (a_NOT_CONTAIN : Addr) (a_RX : Addr) (a_COMPARISON : Addr) (a_LIST : Addr) (a_PATTERN : Addr) (a_NULL_TEST : Addr) (hS : SB Z a_EQ a_NE a_GT a_GE a_LT a_LE a_IN a_NOT_IN a_NULL a_LIKE a_NOT_LIKE a_START a_NOT_START a_END a_NOT_END a_CONTAIN a_NOT_CONTAIN a_RX a_COMPARISON a_LIST a_PATTERN a_NULL_TEST) (a1 sh : Addr) (r : Int32) (h0 : Heap) (n0 : Nat) (O0 : Old Z n0 h0) (F1 : Fld Z h0 a1 "com/example/rows_by_rule/rowsbyrule/query/FieldOperator" "shape" "Lcom/example/rows_by_rule/rowsbyrule/query/FieldOperator$Shape;" (.ref sh)) (hres : (sh = a_LIST → r = 1) ∧ (¬ sh = a_LIST → ¬ sh = a_COMPARISON → r = 0) ∧ (¬ sh = a_LIST → sh = a_COMPARISON → a1 = a_RX → r = 0) ∧ (¬ sh = a_LIST → sh = a_COMPARISON → ¬ a1 = a_RX → r = 1)) :
    MetFree l (⟨"com/example/rows_by_rule/rowsbyrule/query/FieldOperator", "takesSubquery", "()Z"⟩ : MethodName) (head1 (Jvm.Cond.code (⟨"com/example/rows_by_rule/rowsbyrule/query/FieldOperator", "takesSubquery", "()Z"⟩ : MethodName) prog_27_method_7_code 1 (some .boolean) :: ws) ({ frames := 0, cells := 0, slots := 0, locals := 0 } : Room)) (fun a U => a = #[(.ref a1)] ∧ Z.Warmed39 U.vm ∧ U.heap = h0) (fun _ _ _ _ _ => True) (fun _ U o U' => ∃ v L, o = .returned v ∧ Q1 r h0 n0 v U'.heap L ∧ FrameEnd U o U' L ({ frames := 0, cells := 0, slots := 0, locals := 0 } : Room).cells ({ frames := 0, cells := 0, slots := 0, locals := 0 } : Room).slots) := by
  refine MetFree.of_bodySF (plainFor_of_name pn_0) hisR ?_
  intro p e s m args below meth c s₁ Bd hml0 hP hK
  obtain ⟨rfl, hZ, hh⟩ := hP
  have hx := Bd.exec
  have hby := Bd.bytes
  have hml : c.maxLocals = 1 := hml0
  have hown : s.vm.findClass "com/example/rows_by_rule/rowsbyrule/query/FieldOperator" = some m.cls := findClass_of_methodNamed Bd.named
  have hnm := (name_of_methodNamed Bd.named Bd.method).1
  have X0 : Stand p l e ({ frames := 0, cells := 0, slots := 0, locals := 0 } : Room) s m #[(.ref a1)] below meth c s₁ [] 0 0 := Stand.of_body Bd
  have e0 : s₁.heap = h0 := by rw [← hh, Bd.state]; rfl
  have N0 := Fr.nil n0
  have pre0 : ∀ t, Steps p.tables e below (s₁.setTop (mkF m 0 #[.val (.ref a1)] [])) t → Steps p.tables e below (s₁.setTop (entryFrame m #[(.ref a1)] 1)) t := fun t k => castTop (ef_rm1 m (a1)) k
  obtain ⟨T1, X1, e1, st1⟩ := getF X0 hx hZ hown (host := "") (Or.inl (hw _ (List.mem_of_getElem? (i := 46) rfl))) Via.refl e0 F1 (g := (mkF m 1 #[.val (.ref a1)] [(.ref a1)])) rfl rfl (hb hby d_prog_27_method_7_1)
  obtain ⟨T2, X2, e2, st2⟩ := getS2 X1 hx hZ hown (host := "") (Or.inl (hw _ (List.mem_of_getElem? (i := 50) rfl))) Via.refl e1 (hS.2.2.2.2.2.2.2.2.2.2.2.2.2.2.2.2.2.2.2.2.2.2.2.2.2.2.2.2.2.2.2.2.2.2.2.2.2.2.2.2.1.ext O0.2) (g := (mkF m 4 #[.val (.ref a1)] [(.ref sh)])) rfl (hb hby d_prog_27_method_7_4)
  have gp3 : ∀ t, Steps p.tables e below (T2.setTop (mkF m 7 #[.val (.ref a1)] [(.ref a_LIST), (.ref sh)])) t → Steps p.tables e below (s₁.setTop (entryFrame m #[(.ref a1)] 1)) t := fun t kt => pre0 t (by
    refine XS.aloadN X0.here hx rfl (hb hby d_prog_27_method_7_0) rfl rfl ?_
    show Steps p.tables e below (s₁.setTop (mkF m 1 #[.val (.ref a1)] [(.ref a1)])) _
    refine st1 _ ?_
    show Steps p.tables e below (T1.setTop (mkF m 4 #[.val (.ref a1)] [(.ref sh)])) _
    refine st2 _ ?_
    show Steps p.tables e below (T2.setTop (mkF m 7 #[.val (.ref a1)] [(.ref a_LIST), (.ref sh)])) _
    exact kt)
  by_cases hc7 : sh = a_LIST
  · obtain ⟨fs, hr, hrun, hended, hW, hsame⟩ := X2.leave (v := (some (.int (1 : Int32)))) (fun h => by rw [Bd.returns] at h; cases h)
    refine ⟨_, _, gp3 _ ?_, hrun, hended, _, _, rfl, ?_, ⟨_, rfl⟩, hW, hsame.mono (by decide) (by decide)⟩
    · refine Jvm.RoadKit.acmp (g := (mkF m 7 #[.val (.ref a1)] [(.ref a_LIST), (.ref sh)])) X2 hx rfl rfl rfl (pc0 := 7) (pc' := 27) (same := true) rfl (hb hby d_prog_27_method_7_7) rfl (decide_eq_true (congrArg Value.ref hc7)) (by decide) (by decide) ?_
      show Steps p.tables e below (T2.setTop (mkF m 27 #[.val (.ref a1)] [])) _
      refine XS.iconst X2.here hx rfl (hb hby d_prog_27_method_7_27) ?_
      show Steps p.tables e below (T2.setTop (mkF m 28 #[.val (.ref a1)] [(.int (1 : Int32))])) _
      refine XS.goto X2.here hx rfl (pc0 := 28) (pc' := 32) rfl (hb hby d_prog_27_method_7_28) (by decide) (by decide) ?_
      show Steps p.tables e below (T2.setTop (mkF m 32 #[.val (.ref a1)] [(.int (1 : Int32))])) _
      exact retN X2 hx (t := .boolean) Bd.returns (by simp) (hb hby d_prog_27_method_7_32) hr
    · show Q1 r h0 n0 _ T2.heap _
      rw [e2]
      exact ⟨by rw [hres.1 hc7], N0, rfl⟩
  · obtain ⟨T4, X4, e4, st4⟩ := getF X2 hx hZ hown (host := "") (Or.inl (hw _ (List.mem_of_getElem? (i := 46) rfl))) Via.refl e2 F1 (g := (mkF m 11 #[.val (.ref a1)] [(.ref a1)])) rfl rfl (hb hby d_prog_27_method_7_11)
    obtain ⟨T5, X5, e5, st5⟩ := getS2 X4 hx hZ hown (host := "") (Or.inl (hw _ (List.mem_of_getElem? (i := 52) rfl))) Via.refl e4 (hS.2.2.2.2.2.2.2.2.2.2.2.2.2.2.2.2.2.2.2.2.2.2.2.2.2.2.2.2.2.2.2.2.2.2.2.2.2.1.ext O0.2) (g := (mkF m 14 #[.val (.ref a1)] [(.ref sh)])) rfl (hb hby d_prog_27_method_7_14)
    have gp6 : ∀ t, Steps p.tables e below (T5.setTop (mkF m 17 #[.val (.ref a1)] [(.ref a_COMPARISON), (.ref sh)])) t → Steps p.tables e below (s₁.setTop (entryFrame m #[(.ref a1)] 1)) t := fun t kt => gp3 t (by
      refine Jvm.RoadKit.acmp (g := (mkF m 7 #[.val (.ref a1)] [(.ref a_LIST), (.ref sh)])) X2 hx rfl rfl rfl (pc0 := 7) (pc' := 10) (same := false) rfl (hb hby d_prog_27_method_7_7) rfl (decide_eq_false fun q => hc7 (Value.ref.inj q)) (by decide) (by decide) ?_
      show Steps p.tables e below (T2.setTop (mkF m 10 #[.val (.ref a1)] [])) _
      refine XS.aloadN X2.here hx rfl (hb hby d_prog_27_method_7_10) rfl rfl ?_
      show Steps p.tables e below (T2.setTop (mkF m 11 #[.val (.ref a1)] [(.ref a1)])) _
      refine st4 _ ?_
      show Steps p.tables e below (T4.setTop (mkF m 14 #[.val (.ref a1)] [(.ref sh)])) _
      refine st5 _ ?_
      show Steps p.tables e below (T5.setTop (mkF m 17 #[.val (.ref a1)] [(.ref a_COMPARISON), (.ref sh)])) _
      exact kt)
    by_cases hc17 : sh = a_COMPARISON
    · obtain ⟨T7, X7, e7, st7⟩ := getS2 X5 hx hZ hown (host := "") (Or.inl (hw _ (List.mem_of_getElem? (i := 53) rfl))) Via.refl e5 (hS.2.2.2.2.2.2.2.2.2.2.2.2.2.2.2.2.2.2.2.2.2.2.2.2.2.2.2.2.2.2.2.2.2.2.2.1.ext O0.2) (g := (mkF m 21 #[.val (.ref a1)] [(.ref a1)])) rfl (hb hby d_prog_27_method_7_21)
      have gp8 : ∀ t, Steps p.tables e below (T7.setTop (mkF m 24 #[.val (.ref a1)] [(.ref a_RX), (.ref a1)])) t → Steps p.tables e below (s₁.setTop (entryFrame m #[(.ref a1)] 1)) t := fun t kt => gp6 t (by
        refine Jvm.RoadKit.acmp (g := (mkF m 17 #[.val (.ref a1)] [(.ref a_COMPARISON), (.ref sh)])) X5 hx rfl rfl rfl (pc0 := 17) (pc' := 20) (same := true) rfl (hb hby d_prog_27_method_7_17) rfl (decide_eq_true (congrArg Value.ref hc17)) (by decide) (by decide) ?_
        show Steps p.tables e below (T5.setTop (mkF m 20 #[.val (.ref a1)] [])) _
        refine XS.aloadN X5.here hx rfl (hb hby d_prog_27_method_7_20) rfl rfl ?_
        show Steps p.tables e below (T5.setTop (mkF m 21 #[.val (.ref a1)] [(.ref a1)])) _
        refine st7 _ ?_
        show Steps p.tables e below (T7.setTop (mkF m 24 #[.val (.ref a1)] [(.ref a_RX), (.ref a1)])) _
        exact kt)
      by_cases hc24 : a1 = a_RX
      · obtain ⟨fs, hr, hrun, hended, hW, hsame⟩ := X7.leave (v := (some (.int (0 : Int32)))) (fun h => by rw [Bd.returns] at h; cases h)
        refine ⟨_, _, gp8 _ ?_, hrun, hended, _, _, rfl, ?_, ⟨_, rfl⟩, hW, hsame.mono (by decide) (by decide)⟩
        · refine Jvm.RoadKit.acmp (g := (mkF m 24 #[.val (.ref a1)] [(.ref a_RX), (.ref a1)])) X7 hx rfl rfl rfl (pc0 := 24) (pc' := 31) (same := true) rfl (hb hby d_prog_27_method_7_24) rfl (decide_eq_true (congrArg Value.ref hc24)) (by decide) (by decide) ?_
          show Steps p.tables e below (T7.setTop (mkF m 31 #[.val (.ref a1)] [])) _
          refine XS.iconst X7.here hx rfl (hb hby d_prog_27_method_7_31) ?_
          show Steps p.tables e below (T7.setTop (mkF m 32 #[.val (.ref a1)] [(.int (0 : Int32))])) _
          exact retN X7 hx (t := .boolean) Bd.returns (by simp) (hb hby d_prog_27_method_7_32) hr
        · show Q1 r h0 n0 _ T7.heap _
          rw [e7]
          exact ⟨by rw [hres.2.2.1 hc7 hc17 hc24], N0, rfl⟩
      · obtain ⟨fs, hr, hrun, hended, hW, hsame⟩ := X7.leave (v := (some (.int (1 : Int32)))) (fun h => by rw [Bd.returns] at h; cases h)
        refine ⟨_, _, gp8 _ ?_, hrun, hended, _, _, rfl, ?_, ⟨_, rfl⟩, hW, hsame.mono (by decide) (by decide)⟩
        · refine Jvm.RoadKit.acmp (g := (mkF m 24 #[.val (.ref a1)] [(.ref a_RX), (.ref a1)])) X7 hx rfl rfl rfl (pc0 := 24) (pc' := 27) (same := false) rfl (hb hby d_prog_27_method_7_24) rfl (decide_eq_false fun q => hc24 (Value.ref.inj q)) (by decide) (by decide) ?_
          show Steps p.tables e below (T7.setTop (mkF m 27 #[.val (.ref a1)] [])) _
          refine XS.iconst X7.here hx rfl (hb hby d_prog_27_method_7_27) ?_
          show Steps p.tables e below (T7.setTop (mkF m 28 #[.val (.ref a1)] [(.int (1 : Int32))])) _
          refine XS.goto X7.here hx rfl (pc0 := 28) (pc' := 32) rfl (hb hby d_prog_27_method_7_28) (by decide) (by decide) ?_
          show Steps p.tables e below (T7.setTop (mkF m 32 #[.val (.ref a1)] [(.int (1 : Int32))])) _
          exact retN X7 hx (t := .boolean) Bd.returns (by simp) (hb hby d_prog_27_method_7_32) hr
        · show Q1 r h0 n0 _ T7.heap _
          rw [e7]
          exact ⟨by rw [hres.2.2.2 hc7 hc17 hc24], N0, rfl⟩
    · obtain ⟨fs, hr, hrun, hended, hW, hsame⟩ := X5.leave (v := (some (.int (0 : Int32)))) (fun h => by rw [Bd.returns] at h; cases h)
      refine ⟨_, _, gp6 _ ?_, hrun, hended, _, _, rfl, ?_, ⟨_, rfl⟩, hW, hsame.mono (by decide) (by decide)⟩
      · refine Jvm.RoadKit.acmp (g := (mkF m 17 #[.val (.ref a1)] [(.ref a_COMPARISON), (.ref sh)])) X5 hx rfl rfl rfl (pc0 := 17) (pc' := 31) (same := false) rfl (hb hby d_prog_27_method_7_17) rfl (decide_eq_false fun q => hc17 (Value.ref.inj q)) (by decide) (by decide) ?_
        show Steps p.tables e below (T5.setTop (mkF m 31 #[.val (.ref a1)] [])) _
        refine XS.iconst X5.here hx rfl (hb hby d_prog_27_method_7_31) ?_
        show Steps p.tables e below (T5.setTop (mkF m 32 #[.val (.ref a1)] [(.int (0 : Int32))])) _
        exact retN X5 hx (t := .boolean) Bd.returns (by simp) (hb hby d_prog_27_method_7_32) hr
      · show Q1 r h0 n0 _ T5.heap _
        rw [e5]
        exact ⟨by rw [hres.2.1 hc7 hc17], N0, rfl⟩
set_option maxRecDepth 65536 in
set_option maxHeartbeats 40000000 in
theorem rm0 (l : Launch) (Z : State) (a0 : Array Value) (hw : ∀ d ∈ tables_1, d.before a0 Z = true) (ws : List Jvm.Cond) (a_EQ : Addr) (a_NE : Addr) (a_GT : Addr) (a_GE : Addr) (a_LT : Addr) (a_LE : Addr) (a_IN : Addr) (a_NOT_IN : Addr) (a_NULL : Addr) (a_LIKE : Addr) (a_NOT_LIKE : Addr) (a_START : Addr) (a_NOT_START : Addr) (a_END : Addr) (a_NOT_END : Addr) (a_CONTAIN : Addr) (a_NOT_CONTAIN : Addr) (a_RX : Addr) (a_COMPARISON : Addr) (a_LIST : Addr) (a_PATTERN : Addr) (a_NULL_TEST : Addr) (hS : SB Z a_EQ a_NE a_GT a_GE a_LT a_LE a_IN a_NOT_IN a_NULL a_LIKE a_NOT_LIKE a_START a_NOT_START a_END a_NOT_END a_CONTAIN a_NOT_CONTAIN a_RX a_COMPARISON a_LIST a_PATTERN a_NULL_TEST) (p0 : Int32) (h0 : Heap) (n0 : Nat) (O0 : Old Z n0 h0) :
    MetFree l x (head1 (Jvm.Cond.code x code maxLocals ret :: ws) room_1) (fun a U => a = #[(.int p0)] ∧ Z.Warmed39 U.vm ∧ U.heap = h0) (fun _ _ _ _ _ => True) (fun _ U o U' => ∃ v L, o = .returned v ∧ Q0 n0 v U'.heap L ∧ FrameEnd U o U' L room_1.cells room_1.slots) := by
  refine MetFree.of_bodySF (plainFor_of_name pn_1) hisR ?_
  intro p e s m args below meth c s₁ Bd hml0 hP hK
  obtain ⟨rfl, hZ, hh⟩ := hP
  have hx := Bd.exec
  have hby := Bd.bytes
  have hml : c.maxLocals = 4 := hml0
  have hown : s.vm.findClass "com/example/rows_by_rule/rowsbyrule/query/FieldOperatorTakesSubqueryPinLaw" = some m.cls := findClass_of_methodNamed Bd.named
  have hnm := (name_of_methodNamed Bd.named Bd.method).1
  have X0 : Stand p l e room_1 s m #[(.int p0)] below meth c s₁ [] 0 0 := Stand.of_body Bd
  have e0 : s₁.heap = h0 := by rw [← hh, Bd.state]; rfl
  have N0 := Fr.nil n0
  have pre0 : ∀ t, Steps p.tables e below (s₁.setTop (mkF m 0 #[.val (.int p0), .unset, .unset, .unset] [])) t → Steps p.tables e below (s₁.setTop (entryFrame m #[(.int p0)] maxLocals)) t := fun t k => castTop (ef_rm0 m (p0)) k
  obtain ⟨T1, h1, k1, X1, e1, E1, A1, O1', st1⟩ := newR X0 hx hZ hown (hw _ (List.mem_of_getElem? (i := 0) rfl)) (hw _ (List.mem_of_getElem? (i := 1) rfl)) e0 (g := (mkF m 2 #[.val (.int p0), .unset, .unset, .unset] [(.int (18 : Int32))])) rfl (hb hby at_2) rfl (by decide) (cap := 18) (by decide) (by decide) (by decide) (by decide)
  obtain ⟨b1, gb1⟩ : ∃ z, z = h0.size := ⟨_, rfl⟩
  rw [← gb1] at A1 st1
  have g2 : n0 ≤ b1 := Nat.le_trans (Nat.le_of_eq O0.1.symm) (Nat.le_trans O0.2.1 (Nat.le_of_eq gb1.symm))
  have O3 : Old Z n0 h1 := Old.ext O0 E1
  have v4 : Arv Z h1 b1 k1 (.object "com/example/rows_by_rule/rowsbyrule/query/FieldOperator") (18 : Int32) [.null, .null, .null, .null, .null, .null, .null, .null, .null, .null, .null, .null, .null, .null, .null, .null, .null, .null] .null := (Arv.new A1 (by decide)).pad (pad_rep [] .null 18)
  obtain ⟨T5, X5, e5, st5⟩ := getS2 X1 hx hZ hown (host := "") (Or.inl (hw _ (List.mem_of_getElem? (i := 2) rfl))) Via.refl e1 (hS.2.1.ext O3.2) (g := (mkF m 7 #[.val (.int p0), .unset, .unset, .unset] [(.int (0 : Int32)), (.ref b1), (.ref b1)])) rfl (hb hby at_7)
  obtain ⟨c6, Ar6, q6, S6, M6, Hh6, G6⟩ := (id v4)
  have hin6 : ¬ ((0 : Int32) < 0 ∨ c6.slots.size ≤ ((0 : Int32)).toNatClampNeg) := inb_of S6 ⟨by decide, by decide⟩
  obtain ⟨T7, h7, X7, e7, W7, st7⟩ := stR X5 hx hZ e5 Ar6 (j := (0 : Int32)) hin6 rfl (Sto.ofV Ar6 q6 O1' (Ins.self (hS.1.ext O3.2))) (g := (mkF m 10 #[.val (.int p0), .unset, .unset, .unset] [(.ref a_EQ), (.int (0 : Int32)), (.ref b1), (.ref b1)])) rfl rfl (hb hby at_10)
  have v8 : Arv Z h7 b1 k1 (.object "com/example/rows_by_rule/rowsbyrule/query/FieldOperator") (18 : Int32) [(.ref a_EQ), .null, .null, .null, .null, .null, .null, .null, .null, .null, .null, .null, .null, .null, .null, .null, .null, .null] .null := Arv.set Ar6 q6 S6 M6 Hh6 G6 rfl W7 0 rfl (Nat.le_of_ble_eq_true rfl)
  have N7 := Fr.snoc X7 N0 g2
  have O9 : Old Z n0 h7 := Old.wr O3 W7 g2
  obtain ⟨T10, X10, e10, st10⟩ := getS2 X7 hx hZ hown (host := "") (Or.inl (hw _ (List.mem_of_getElem? (i := 6) rfl))) Via.refl e7 (hS.2.2.2.1.ext O9.2) (g := (mkF m 13 #[.val (.int p0), .unset, .unset, .unset] [(.int (1 : Int32)), (.ref b1), (.ref b1)])) rfl (hb hby at_13)
  obtain ⟨c11, Ar11, q11, S11, M11, Hh11, G11⟩ := (id v8)
  have hin11 : ¬ ((1 : Int32) < 0 ∨ c11.slots.size ≤ ((1 : Int32)).toNatClampNeg) := inb_of S11 ⟨by decide, by decide⟩
  obtain ⟨T12, h12, X12, e12, W12, st12⟩ := stR X10 hx hZ e10 Ar11 (j := (1 : Int32)) hin11 rfl (Sto.ofV Ar11 q11 O1' (Ins.self (hS.2.2.1.ext O9.2))) (g := (mkF m 16 #[.val (.int p0), .unset, .unset, .unset] [(.ref a_NE), (.int (1 : Int32)), (.ref b1), (.ref b1)])) rfl rfl (hb hby at_16)
  have v13 : Arv Z h12 b1 k1 (.object "com/example/rows_by_rule/rowsbyrule/query/FieldOperator") (18 : Int32) [(.ref a_EQ), (.ref a_NE), .null, .null, .null, .null, .null, .null, .null, .null, .null, .null, .null, .null, .null, .null, .null, .null] .null := Arv.set Ar11 q11 S11 M11 Hh11 G11 rfl W12 1 rfl (Nat.le_of_ble_eq_true rfl)
  have N12 := Fr.snoc X12 N7 g2
  have O14 : Old Z n0 h12 := Old.wr O9 W12 g2
  obtain ⟨T15, X15, e15, st15⟩ := getS2 X12 hx hZ hown (host := "") (Or.inl (hw _ (List.mem_of_getElem? (i := 8) rfl))) Via.refl e12 (hS.2.2.2.2.2.1.ext O14.2) (g := (mkF m 19 #[.val (.int p0), .unset, .unset, .unset] [(.int (2 : Int32)), (.ref b1), (.ref b1)])) rfl (hb hby at_19)
  obtain ⟨c16, Ar16, q16, S16, M16, Hh16, G16⟩ := (id v13)
  have hin16 : ¬ ((2 : Int32) < 0 ∨ c16.slots.size ≤ ((2 : Int32)).toNatClampNeg) := inb_of S16 ⟨by decide, by decide⟩
  obtain ⟨T17, h17, X17, e17, W17, st17⟩ := stR X15 hx hZ e15 Ar16 (j := (2 : Int32)) hin16 rfl (Sto.ofV Ar16 q16 O1' (Ins.self (hS.2.2.2.2.1.ext O14.2))) (g := (mkF m 22 #[.val (.int p0), .unset, .unset, .unset] [(.ref a_GT), (.int (2 : Int32)), (.ref b1), (.ref b1)])) rfl rfl (hb hby at_22)
  have v18 : Arv Z h17 b1 k1 (.object "com/example/rows_by_rule/rowsbyrule/query/FieldOperator") (18 : Int32) [(.ref a_EQ), (.ref a_NE), (.ref a_GT), .null, .null, .null, .null, .null, .null, .null, .null, .null, .null, .null, .null, .null, .null, .null] .null := Arv.set Ar16 q16 S16 M16 Hh16 G16 rfl W17 2 rfl (Nat.le_of_ble_eq_true rfl)
  have N17 := Fr.snoc X17 N12 g2
  have O19 : Old Z n0 h17 := Old.wr O14 W17 g2
  obtain ⟨T20, X20, e20, st20⟩ := getS2 X17 hx hZ hown (host := "") (Or.inl (hw _ (List.mem_of_getElem? (i := 10) rfl))) Via.refl e17 (hS.2.2.2.2.2.2.2.1.ext O19.2) (g := (mkF m 25 #[.val (.int p0), .unset, .unset, .unset] [(.int (3 : Int32)), (.ref b1), (.ref b1)])) rfl (hb hby at_25)
  obtain ⟨c21, Ar21, q21, S21, M21, Hh21, G21⟩ := (id v18)
  have hin21 : ¬ ((3 : Int32) < 0 ∨ c21.slots.size ≤ ((3 : Int32)).toNatClampNeg) := inb_of S21 ⟨by decide, by decide⟩
  obtain ⟨T22, h22, X22, e22, W22, st22⟩ := stR X20 hx hZ e20 Ar21 (j := (3 : Int32)) hin21 rfl (Sto.ofV Ar21 q21 O1' (Ins.self (hS.2.2.2.2.2.2.1.ext O19.2))) (g := (mkF m 28 #[.val (.int p0), .unset, .unset, .unset] [(.ref a_GE), (.int (3 : Int32)), (.ref b1), (.ref b1)])) rfl rfl (hb hby at_28)
  have v23 : Arv Z h22 b1 k1 (.object "com/example/rows_by_rule/rowsbyrule/query/FieldOperator") (18 : Int32) [(.ref a_EQ), (.ref a_NE), (.ref a_GT), (.ref a_GE), .null, .null, .null, .null, .null, .null, .null, .null, .null, .null, .null, .null, .null, .null] .null := Arv.set Ar21 q21 S21 M21 Hh21 G21 rfl W22 3 rfl (Nat.le_of_ble_eq_true rfl)
  have N22 := Fr.snoc X22 N17 g2
  have O24 : Old Z n0 h22 := Old.wr O19 W22 g2
  obtain ⟨T25, X25, e25, st25⟩ := getS2 X22 hx hZ hown (host := "") (Or.inl (hw _ (List.mem_of_getElem? (i := 12) rfl))) Via.refl e22 (hS.2.2.2.2.2.2.2.2.2.1.ext O24.2) (g := (mkF m 31 #[.val (.int p0), .unset, .unset, .unset] [(.int (4 : Int32)), (.ref b1), (.ref b1)])) rfl (hb hby at_31)
  obtain ⟨c26, Ar26, q26, S26, M26, Hh26, G26⟩ := (id v23)
  have hin26 : ¬ ((4 : Int32) < 0 ∨ c26.slots.size ≤ ((4 : Int32)).toNatClampNeg) := inb_of S26 ⟨by decide, by decide⟩
  obtain ⟨T27, h27, X27, e27, W27, st27⟩ := stR X25 hx hZ e25 Ar26 (j := (4 : Int32)) hin26 rfl (Sto.ofV Ar26 q26 O1' (Ins.self (hS.2.2.2.2.2.2.2.2.1.ext O24.2))) (g := (mkF m 34 #[.val (.int p0), .unset, .unset, .unset] [(.ref a_LT), (.int (4 : Int32)), (.ref b1), (.ref b1)])) rfl rfl (hb hby at_34)
  have v28 : Arv Z h27 b1 k1 (.object "com/example/rows_by_rule/rowsbyrule/query/FieldOperator") (18 : Int32) [(.ref a_EQ), (.ref a_NE), (.ref a_GT), (.ref a_GE), (.ref a_LT), .null, .null, .null, .null, .null, .null, .null, .null, .null, .null, .null, .null, .null] .null := Arv.set Ar26 q26 S26 M26 Hh26 G26 rfl W27 4 rfl (Nat.le_of_ble_eq_true rfl)
  have N27 := Fr.snoc X27 N22 g2
  have O29 : Old Z n0 h27 := Old.wr O24 W27 g2
  obtain ⟨T30, X30, e30, st30⟩ := getS2 X27 hx hZ hown (host := "") (Or.inl (hw _ (List.mem_of_getElem? (i := 14) rfl))) Via.refl e27 (hS.2.2.2.2.2.2.2.2.2.2.2.1.ext O29.2) (g := (mkF m 37 #[.val (.int p0), .unset, .unset, .unset] [(.int (5 : Int32)), (.ref b1), (.ref b1)])) rfl (hb hby at_37)
  obtain ⟨c31, Ar31, q31, S31, M31, Hh31, G31⟩ := (id v28)
  have hin31 : ¬ ((5 : Int32) < 0 ∨ c31.slots.size ≤ ((5 : Int32)).toNatClampNeg) := inb_of S31 ⟨by decide, by decide⟩
  obtain ⟨T32, h32, X32, e32, W32, st32⟩ := stR X30 hx hZ e30 Ar31 (j := (5 : Int32)) hin31 rfl (Sto.ofV Ar31 q31 O1' (Ins.self (hS.2.2.2.2.2.2.2.2.2.2.1.ext O29.2))) (g := (mkF m 40 #[.val (.int p0), .unset, .unset, .unset] [(.ref a_LE), (.int (5 : Int32)), (.ref b1), (.ref b1)])) rfl rfl (hb hby at_40)
  have v33 : Arv Z h32 b1 k1 (.object "com/example/rows_by_rule/rowsbyrule/query/FieldOperator") (18 : Int32) [(.ref a_EQ), (.ref a_NE), (.ref a_GT), (.ref a_GE), (.ref a_LT), (.ref a_LE), .null, .null, .null, .null, .null, .null, .null, .null, .null, .null, .null, .null] .null := Arv.set Ar31 q31 S31 M31 Hh31 G31 rfl W32 5 rfl (Nat.le_of_ble_eq_true rfl)
  have N32 := Fr.snoc X32 N27 g2
  have O34 : Old Z n0 h32 := Old.wr O29 W32 g2
  obtain ⟨T35, X35, e35, st35⟩ := getS2 X32 hx hZ hown (host := "") (Or.inl (hw _ (List.mem_of_getElem? (i := 16) rfl))) Via.refl e32 (hS.2.2.2.2.2.2.2.2.2.2.2.2.2.1.ext O34.2) (g := (mkF m 44 #[.val (.int p0), .unset, .unset, .unset] [(.int (6 : Int32)), (.ref b1), (.ref b1)])) rfl (hb hby at_44)
  obtain ⟨c36, Ar36, q36, S36, M36, Hh36, G36⟩ := (id v33)
  have hin36 : ¬ ((6 : Int32) < 0 ∨ c36.slots.size ≤ ((6 : Int32)).toNatClampNeg) := inb_of S36 ⟨by decide, by decide⟩
  obtain ⟨T37, h37, X37, e37, W37, st37⟩ := stR X35 hx hZ e35 Ar36 (j := (6 : Int32)) hin36 rfl (Sto.ofV Ar36 q36 O1' (Ins.self (hS.2.2.2.2.2.2.2.2.2.2.2.2.1.ext O34.2))) (g := (mkF m 47 #[.val (.int p0), .unset, .unset, .unset] [(.ref a_IN), (.int (6 : Int32)), (.ref b1), (.ref b1)])) rfl rfl (hb hby at_47)
  have v38 : Arv Z h37 b1 k1 (.object "com/example/rows_by_rule/rowsbyrule/query/FieldOperator") (18 : Int32) [(.ref a_EQ), (.ref a_NE), (.ref a_GT), (.ref a_GE), (.ref a_LT), (.ref a_LE), (.ref a_IN), .null, .null, .null, .null, .null, .null, .null, .null, .null, .null, .null] .null := Arv.set Ar36 q36 S36 M36 Hh36 G36 rfl W37 6 rfl (Nat.le_of_ble_eq_true rfl)
  have N37 := Fr.snoc X37 N32 g2
  have O39 : Old Z n0 h37 := Old.wr O34 W37 g2
  obtain ⟨T40, X40, e40, st40⟩ := getS2 X37 hx hZ hown (host := "") (Or.inl (hw _ (List.mem_of_getElem? (i := 18) rfl))) Via.refl e37 (hS.2.2.2.2.2.2.2.2.2.2.2.2.2.2.2.1.ext O39.2) (g := (mkF m 51 #[.val (.int p0), .unset, .unset, .unset] [(.int (7 : Int32)), (.ref b1), (.ref b1)])) rfl (hb hby at_51)
  obtain ⟨c41, Ar41, q41, S41, M41, Hh41, G41⟩ := (id v38)
  have hin41 : ¬ ((7 : Int32) < 0 ∨ c41.slots.size ≤ ((7 : Int32)).toNatClampNeg) := inb_of S41 ⟨by decide, by decide⟩
  obtain ⟨T42, h42, X42, e42, W42, st42⟩ := stR X40 hx hZ e40 Ar41 (j := (7 : Int32)) hin41 rfl (Sto.ofV Ar41 q41 O1' (Ins.self (hS.2.2.2.2.2.2.2.2.2.2.2.2.2.2.1.ext O39.2))) (g := (mkF m 54 #[.val (.int p0), .unset, .unset, .unset] [(.ref a_NOT_IN), (.int (7 : Int32)), (.ref b1), (.ref b1)])) rfl rfl (hb hby at_54)
  have v43 : Arv Z h42 b1 k1 (.object "com/example/rows_by_rule/rowsbyrule/query/FieldOperator") (18 : Int32) [(.ref a_EQ), (.ref a_NE), (.ref a_GT), (.ref a_GE), (.ref a_LT), (.ref a_LE), (.ref a_IN), (.ref a_NOT_IN), .null, .null, .null, .null, .null, .null, .null, .null, .null, .null] .null := Arv.set Ar41 q41 S41 M41 Hh41 G41 rfl W42 7 rfl (Nat.le_of_ble_eq_true rfl)
  have N42 := Fr.snoc X42 N37 g2
  have O44 : Old Z n0 h42 := Old.wr O39 W42 g2
  obtain ⟨T45, X45, e45, st45⟩ := getS2 X42 hx hZ hown (host := "") (Or.inl (hw _ (List.mem_of_getElem? (i := 20) rfl))) Via.refl e42 (hS.2.2.2.2.2.2.2.2.2.2.2.2.2.2.2.2.2.1.ext O44.2) (g := (mkF m 58 #[.val (.int p0), .unset, .unset, .unset] [(.int (8 : Int32)), (.ref b1), (.ref b1)])) rfl (hb hby at_58)
  obtain ⟨c46, Ar46, q46, S46, M46, Hh46, G46⟩ := (id v43)
  have hin46 : ¬ ((8 : Int32) < 0 ∨ c46.slots.size ≤ ((8 : Int32)).toNatClampNeg) := inb_of S46 ⟨by decide, by decide⟩
  obtain ⟨T47, h47, X47, e47, W47, st47⟩ := stR X45 hx hZ e45 Ar46 (j := (8 : Int32)) hin46 rfl (Sto.ofV Ar46 q46 O1' (Ins.self (hS.2.2.2.2.2.2.2.2.2.2.2.2.2.2.2.2.1.ext O44.2))) (g := (mkF m 61 #[.val (.int p0), .unset, .unset, .unset] [(.ref a_NULL), (.int (8 : Int32)), (.ref b1), (.ref b1)])) rfl rfl (hb hby at_61)
  have v48 : Arv Z h47 b1 k1 (.object "com/example/rows_by_rule/rowsbyrule/query/FieldOperator") (18 : Int32) [(.ref a_EQ), (.ref a_NE), (.ref a_GT), (.ref a_GE), (.ref a_LT), (.ref a_LE), (.ref a_IN), (.ref a_NOT_IN), (.ref a_NULL), .null, .null, .null, .null, .null, .null, .null, .null, .null] .null := Arv.set Ar46 q46 S46 M46 Hh46 G46 rfl W47 8 rfl (Nat.le_of_ble_eq_true rfl)
  have N47 := Fr.snoc X47 N42 g2
  have O49 : Old Z n0 h47 := Old.wr O44 W47 g2
  obtain ⟨T50, X50, e50, st50⟩ := getS2 X47 hx hZ hown (host := "") (Or.inl (hw _ (List.mem_of_getElem? (i := 22) rfl))) Via.refl e47 (hS.2.2.2.2.2.2.2.2.2.2.2.2.2.2.2.2.2.2.2.1.ext O49.2) (g := (mkF m 65 #[.val (.int p0), .unset, .unset, .unset] [(.int (9 : Int32)), (.ref b1), (.ref b1)])) rfl (hb hby at_65)
  obtain ⟨c51, Ar51, q51, S51, M51, Hh51, G51⟩ := (id v48)
  have hin51 : ¬ ((9 : Int32) < 0 ∨ c51.slots.size ≤ ((9 : Int32)).toNatClampNeg) := inb_of S51 ⟨by decide, by decide⟩
  obtain ⟨T52, h52, X52, e52, W52, st52⟩ := stR X50 hx hZ e50 Ar51 (j := (9 : Int32)) hin51 rfl (Sto.ofV Ar51 q51 O1' (Ins.self (hS.2.2.2.2.2.2.2.2.2.2.2.2.2.2.2.2.2.2.1.ext O49.2))) (g := (mkF m 68 #[.val (.int p0), .unset, .unset, .unset] [(.ref a_LIKE), (.int (9 : Int32)), (.ref b1), (.ref b1)])) rfl rfl (hb hby at_68)
  have v53 : Arv Z h52 b1 k1 (.object "com/example/rows_by_rule/rowsbyrule/query/FieldOperator") (18 : Int32) [(.ref a_EQ), (.ref a_NE), (.ref a_GT), (.ref a_GE), (.ref a_LT), (.ref a_LE), (.ref a_IN), (.ref a_NOT_IN), (.ref a_NULL), (.ref a_LIKE), .null, .null, .null, .null, .null, .null, .null, .null] .null := Arv.set Ar51 q51 S51 M51 Hh51 G51 rfl W52 9 rfl (Nat.le_of_ble_eq_true rfl)
  have N52 := Fr.snoc X52 N47 g2
  have O54 : Old Z n0 h52 := Old.wr O49 W52 g2
  obtain ⟨T55, X55, e55, st55⟩ := getS2 X52 hx hZ hown (host := "") (Or.inl (hw _ (List.mem_of_getElem? (i := 24) rfl))) Via.refl e52 (hS.2.2.2.2.2.2.2.2.2.2.2.2.2.2.2.2.2.2.2.2.2.1.ext O54.2) (g := (mkF m 72 #[.val (.int p0), .unset, .unset, .unset] [(.int (10 : Int32)), (.ref b1), (.ref b1)])) rfl (hb hby at_72)
  obtain ⟨c56, Ar56, q56, S56, M56, Hh56, G56⟩ := (id v53)
  have hin56 : ¬ ((10 : Int32) < 0 ∨ c56.slots.size ≤ ((10 : Int32)).toNatClampNeg) := inb_of S56 ⟨by decide, by decide⟩
  obtain ⟨T57, h57, X57, e57, W57, st57⟩ := stR X55 hx hZ e55 Ar56 (j := (10 : Int32)) hin56 rfl (Sto.ofV Ar56 q56 O1' (Ins.self (hS.2.2.2.2.2.2.2.2.2.2.2.2.2.2.2.2.2.2.2.2.1.ext O54.2))) (g := (mkF m 75 #[.val (.int p0), .unset, .unset, .unset] [(.ref a_NOT_LIKE), (.int (10 : Int32)), (.ref b1), (.ref b1)])) rfl rfl (hb hby at_75)
  have v58 : Arv Z h57 b1 k1 (.object "com/example/rows_by_rule/rowsbyrule/query/FieldOperator") (18 : Int32) [(.ref a_EQ), (.ref a_NE), (.ref a_GT), (.ref a_GE), (.ref a_LT), (.ref a_LE), (.ref a_IN), (.ref a_NOT_IN), (.ref a_NULL), (.ref a_LIKE), (.ref a_NOT_LIKE), .null, .null, .null, .null, .null, .null, .null] .null := Arv.set Ar56 q56 S56 M56 Hh56 G56 rfl W57 10 rfl (Nat.le_of_ble_eq_true rfl)
  have N57 := Fr.snoc X57 N52 g2
  have O59 : Old Z n0 h57 := Old.wr O54 W57 g2
  obtain ⟨T60, X60, e60, st60⟩ := getS2 X57 hx hZ hown (host := "") (Or.inl (hw _ (List.mem_of_getElem? (i := 26) rfl))) Via.refl e57 (hS.2.2.2.2.2.2.2.2.2.2.2.2.2.2.2.2.2.2.2.2.2.2.2.1.ext O59.2) (g := (mkF m 79 #[.val (.int p0), .unset, .unset, .unset] [(.int (11 : Int32)), (.ref b1), (.ref b1)])) rfl (hb hby at_79)
  obtain ⟨c61, Ar61, q61, S61, M61, Hh61, G61⟩ := (id v58)
  have hin61 : ¬ ((11 : Int32) < 0 ∨ c61.slots.size ≤ ((11 : Int32)).toNatClampNeg) := inb_of S61 ⟨by decide, by decide⟩
  obtain ⟨T62, h62, X62, e62, W62, st62⟩ := stR X60 hx hZ e60 Ar61 (j := (11 : Int32)) hin61 rfl (Sto.ofV Ar61 q61 O1' (Ins.self (hS.2.2.2.2.2.2.2.2.2.2.2.2.2.2.2.2.2.2.2.2.2.2.1.ext O59.2))) (g := (mkF m 82 #[.val (.int p0), .unset, .unset, .unset] [(.ref a_START), (.int (11 : Int32)), (.ref b1), (.ref b1)])) rfl rfl (hb hby at_82)
  have v63 : Arv Z h62 b1 k1 (.object "com/example/rows_by_rule/rowsbyrule/query/FieldOperator") (18 : Int32) [(.ref a_EQ), (.ref a_NE), (.ref a_GT), (.ref a_GE), (.ref a_LT), (.ref a_LE), (.ref a_IN), (.ref a_NOT_IN), (.ref a_NULL), (.ref a_LIKE), (.ref a_NOT_LIKE), (.ref a_START), .null, .null, .null, .null, .null, .null] .null := Arv.set Ar61 q61 S61 M61 Hh61 G61 rfl W62 11 rfl (Nat.le_of_ble_eq_true rfl)
  have N62 := Fr.snoc X62 N57 g2
  have O64 : Old Z n0 h62 := Old.wr O59 W62 g2
  obtain ⟨T65, X65, e65, st65⟩ := getS2 X62 hx hZ hown (host := "") (Or.inl (hw _ (List.mem_of_getElem? (i := 28) rfl))) Via.refl e62 (hS.2.2.2.2.2.2.2.2.2.2.2.2.2.2.2.2.2.2.2.2.2.2.2.2.2.1.ext O64.2) (g := (mkF m 86 #[.val (.int p0), .unset, .unset, .unset] [(.int (12 : Int32)), (.ref b1), (.ref b1)])) rfl (hb hby at_86)
  obtain ⟨c66, Ar66, q66, S66, M66, Hh66, G66⟩ := (id v63)
  have hin66 : ¬ ((12 : Int32) < 0 ∨ c66.slots.size ≤ ((12 : Int32)).toNatClampNeg) := inb_of S66 ⟨by decide, by decide⟩
  obtain ⟨T67, h67, X67, e67, W67, st67⟩ := stR X65 hx hZ e65 Ar66 (j := (12 : Int32)) hin66 rfl (Sto.ofV Ar66 q66 O1' (Ins.self (hS.2.2.2.2.2.2.2.2.2.2.2.2.2.2.2.2.2.2.2.2.2.2.2.2.1.ext O64.2))) (g := (mkF m 89 #[.val (.int p0), .unset, .unset, .unset] [(.ref a_NOT_START), (.int (12 : Int32)), (.ref b1), (.ref b1)])) rfl rfl (hb hby at_89)
  have v68 : Arv Z h67 b1 k1 (.object "com/example/rows_by_rule/rowsbyrule/query/FieldOperator") (18 : Int32) [(.ref a_EQ), (.ref a_NE), (.ref a_GT), (.ref a_GE), (.ref a_LT), (.ref a_LE), (.ref a_IN), (.ref a_NOT_IN), (.ref a_NULL), (.ref a_LIKE), (.ref a_NOT_LIKE), (.ref a_START), (.ref a_NOT_START), .null, .null, .null, .null, .null] .null := Arv.set Ar66 q66 S66 M66 Hh66 G66 rfl W67 12 rfl (Nat.le_of_ble_eq_true rfl)
  have N67 := Fr.snoc X67 N62 g2
  have O69 : Old Z n0 h67 := Old.wr O64 W67 g2
  obtain ⟨T70, X70, e70, st70⟩ := getS2 X67 hx hZ hown (host := "") (Or.inl (hw _ (List.mem_of_getElem? (i := 30) rfl))) Via.refl e67 (hS.2.2.2.2.2.2.2.2.2.2.2.2.2.2.2.2.2.2.2.2.2.2.2.2.2.2.2.1.ext O69.2) (g := (mkF m 93 #[.val (.int p0), .unset, .unset, .unset] [(.int (13 : Int32)), (.ref b1), (.ref b1)])) rfl (hb hby at_93)
  obtain ⟨c71, Ar71, q71, S71, M71, Hh71, G71⟩ := (id v68)
  have hin71 : ¬ ((13 : Int32) < 0 ∨ c71.slots.size ≤ ((13 : Int32)).toNatClampNeg) := inb_of S71 ⟨by decide, by decide⟩
  obtain ⟨T72, h72, X72, e72, W72, st72⟩ := stR X70 hx hZ e70 Ar71 (j := (13 : Int32)) hin71 rfl (Sto.ofV Ar71 q71 O1' (Ins.self (hS.2.2.2.2.2.2.2.2.2.2.2.2.2.2.2.2.2.2.2.2.2.2.2.2.2.2.1.ext O69.2))) (g := (mkF m 96 #[.val (.int p0), .unset, .unset, .unset] [(.ref a_END), (.int (13 : Int32)), (.ref b1), (.ref b1)])) rfl rfl (hb hby at_96)
  have v73 : Arv Z h72 b1 k1 (.object "com/example/rows_by_rule/rowsbyrule/query/FieldOperator") (18 : Int32) [(.ref a_EQ), (.ref a_NE), (.ref a_GT), (.ref a_GE), (.ref a_LT), (.ref a_LE), (.ref a_IN), (.ref a_NOT_IN), (.ref a_NULL), (.ref a_LIKE), (.ref a_NOT_LIKE), (.ref a_START), (.ref a_NOT_START), (.ref a_END), .null, .null, .null, .null] .null := Arv.set Ar71 q71 S71 M71 Hh71 G71 rfl W72 13 rfl (Nat.le_of_ble_eq_true rfl)
  have N72 := Fr.snoc X72 N67 g2
  have O74 : Old Z n0 h72 := Old.wr O69 W72 g2
  obtain ⟨T75, X75, e75, st75⟩ := getS2 X72 hx hZ hown (host := "") (Or.inl (hw _ (List.mem_of_getElem? (i := 32) rfl))) Via.refl e72 (hS.2.2.2.2.2.2.2.2.2.2.2.2.2.2.2.2.2.2.2.2.2.2.2.2.2.2.2.2.2.1.ext O74.2) (g := (mkF m 100 #[.val (.int p0), .unset, .unset, .unset] [(.int (14 : Int32)), (.ref b1), (.ref b1)])) rfl (hb hby at_100)
  obtain ⟨c76, Ar76, q76, S76, M76, Hh76, G76⟩ := (id v73)
  have hin76 : ¬ ((14 : Int32) < 0 ∨ c76.slots.size ≤ ((14 : Int32)).toNatClampNeg) := inb_of S76 ⟨by decide, by decide⟩
  obtain ⟨T77, h77, X77, e77, W77, st77⟩ := stR X75 hx hZ e75 Ar76 (j := (14 : Int32)) hin76 rfl (Sto.ofV Ar76 q76 O1' (Ins.self (hS.2.2.2.2.2.2.2.2.2.2.2.2.2.2.2.2.2.2.2.2.2.2.2.2.2.2.2.2.1.ext O74.2))) (g := (mkF m 103 #[.val (.int p0), .unset, .unset, .unset] [(.ref a_NOT_END), (.int (14 : Int32)), (.ref b1), (.ref b1)])) rfl rfl (hb hby at_103)
  have v78 : Arv Z h77 b1 k1 (.object "com/example/rows_by_rule/rowsbyrule/query/FieldOperator") (18 : Int32) [(.ref a_EQ), (.ref a_NE), (.ref a_GT), (.ref a_GE), (.ref a_LT), (.ref a_LE), (.ref a_IN), (.ref a_NOT_IN), (.ref a_NULL), (.ref a_LIKE), (.ref a_NOT_LIKE), (.ref a_START), (.ref a_NOT_START), (.ref a_END), (.ref a_NOT_END), .null, .null, .null] .null := Arv.set Ar76 q76 S76 M76 Hh76 G76 rfl W77 14 rfl (Nat.le_of_ble_eq_true rfl)
  have N77 := Fr.snoc X77 N72 g2
  have O79 : Old Z n0 h77 := Old.wr O74 W77 g2
  obtain ⟨T80, X80, e80, st80⟩ := getS2 X77 hx hZ hown (host := "") (Or.inl (hw _ (List.mem_of_getElem? (i := 34) rfl))) Via.refl e77 (hS.2.2.2.2.2.2.2.2.2.2.2.2.2.2.2.2.2.2.2.2.2.2.2.2.2.2.2.2.2.2.2.1.ext O79.2) (g := (mkF m 107 #[.val (.int p0), .unset, .unset, .unset] [(.int (15 : Int32)), (.ref b1), (.ref b1)])) rfl (hb hby at_107)
  obtain ⟨c81, Ar81, q81, S81, M81, Hh81, G81⟩ := (id v78)
  have hin81 : ¬ ((15 : Int32) < 0 ∨ c81.slots.size ≤ ((15 : Int32)).toNatClampNeg) := inb_of S81 ⟨by decide, by decide⟩
  obtain ⟨T82, h82, X82, e82, W82, st82⟩ := stR X80 hx hZ e80 Ar81 (j := (15 : Int32)) hin81 rfl (Sto.ofV Ar81 q81 O1' (Ins.self (hS.2.2.2.2.2.2.2.2.2.2.2.2.2.2.2.2.2.2.2.2.2.2.2.2.2.2.2.2.2.2.1.ext O79.2))) (g := (mkF m 110 #[.val (.int p0), .unset, .unset, .unset] [(.ref a_CONTAIN), (.int (15 : Int32)), (.ref b1), (.ref b1)])) rfl rfl (hb hby at_110)
  have v83 : Arv Z h82 b1 k1 (.object "com/example/rows_by_rule/rowsbyrule/query/FieldOperator") (18 : Int32) [(.ref a_EQ), (.ref a_NE), (.ref a_GT), (.ref a_GE), (.ref a_LT), (.ref a_LE), (.ref a_IN), (.ref a_NOT_IN), (.ref a_NULL), (.ref a_LIKE), (.ref a_NOT_LIKE), (.ref a_START), (.ref a_NOT_START), (.ref a_END), (.ref a_NOT_END), (.ref a_CONTAIN), .null, .null] .null := Arv.set Ar81 q81 S81 M81 Hh81 G81 rfl W82 15 rfl (Nat.le_of_ble_eq_true rfl)
  have N82 := Fr.snoc X82 N77 g2
  have O84 : Old Z n0 h82 := Old.wr O79 W82 g2
  obtain ⟨T85, X85, e85, st85⟩ := getS2 X82 hx hZ hown (host := "") (Or.inl (hw _ (List.mem_of_getElem? (i := 36) rfl))) Via.refl e82 (hS.2.2.2.2.2.2.2.2.2.2.2.2.2.2.2.2.2.2.2.2.2.2.2.2.2.2.2.2.2.2.2.2.2.1.ext O84.2) (g := (mkF m 114 #[.val (.int p0), .unset, .unset, .unset] [(.int (16 : Int32)), (.ref b1), (.ref b1)])) rfl (hb hby at_114)
  obtain ⟨c86, Ar86, q86, S86, M86, Hh86, G86⟩ := (id v83)
  have hin86 : ¬ ((16 : Int32) < 0 ∨ c86.slots.size ≤ ((16 : Int32)).toNatClampNeg) := inb_of S86 ⟨by decide, by decide⟩
  obtain ⟨T87, h87, X87, e87, W87, st87⟩ := stR X85 hx hZ e85 Ar86 (j := (16 : Int32)) hin86 rfl (Sto.ofV Ar86 q86 O1' (Ins.self (hS.2.2.2.2.2.2.2.2.2.2.2.2.2.2.2.2.2.2.2.2.2.2.2.2.2.2.2.2.2.2.2.2.1.ext O84.2))) (g := (mkF m 117 #[.val (.int p0), .unset, .unset, .unset] [(.ref a_NOT_CONTAIN), (.int (16 : Int32)), (.ref b1), (.ref b1)])) rfl rfl (hb hby at_117)
  have v88 : Arv Z h87 b1 k1 (.object "com/example/rows_by_rule/rowsbyrule/query/FieldOperator") (18 : Int32) [(.ref a_EQ), (.ref a_NE), (.ref a_GT), (.ref a_GE), (.ref a_LT), (.ref a_LE), (.ref a_IN), (.ref a_NOT_IN), (.ref a_NULL), (.ref a_LIKE), (.ref a_NOT_LIKE), (.ref a_START), (.ref a_NOT_START), (.ref a_END), (.ref a_NOT_END), (.ref a_CONTAIN), (.ref a_NOT_CONTAIN), .null] .null := Arv.set Ar86 q86 S86 M86 Hh86 G86 rfl W87 16 rfl (Nat.le_of_ble_eq_true rfl)
  have N87 := Fr.snoc X87 N82 g2
  have O89 : Old Z n0 h87 := Old.wr O84 W87 g2
  obtain ⟨T90, X90, e90, st90⟩ := getS2 X87 hx hZ hown (host := "") (Or.inl (hw _ (List.mem_of_getElem? (i := 38) rfl))) Via.refl e87 (hS.2.2.2.2.2.2.2.2.2.2.2.2.2.2.2.2.2.2.2.2.2.2.2.2.2.2.2.2.2.2.2.2.2.2.2.1.ext O89.2) (g := (mkF m 121 #[.val (.int p0), .unset, .unset, .unset] [(.int (17 : Int32)), (.ref b1), (.ref b1)])) rfl (hb hby at_121)
  obtain ⟨c91, Ar91, q91, S91, M91, Hh91, G91⟩ := (id v88)
  have hin91 : ¬ ((17 : Int32) < 0 ∨ c91.slots.size ≤ ((17 : Int32)).toNatClampNeg) := inb_of S91 ⟨by decide, by decide⟩
  obtain ⟨T92, h92, X92, e92, W92, st92⟩ := stR X90 hx hZ e90 Ar91 (j := (17 : Int32)) hin91 rfl (Sto.ofV Ar91 q91 O1' (Ins.self (hS.2.2.2.2.2.2.2.2.2.2.2.2.2.2.2.2.2.2.2.2.2.2.2.2.2.2.2.2.2.2.2.2.2.2.1.ext O89.2))) (g := (mkF m 124 #[.val (.int p0), .unset, .unset, .unset] [(.ref a_RX), (.int (17 : Int32)), (.ref b1), (.ref b1)])) rfl rfl (hb hby at_124)
  have v93 : Arv Z h92 b1 k1 (.object "com/example/rows_by_rule/rowsbyrule/query/FieldOperator") (18 : Int32) [(.ref a_EQ), (.ref a_NE), (.ref a_GT), (.ref a_GE), (.ref a_LT), (.ref a_LE), (.ref a_IN), (.ref a_NOT_IN), (.ref a_NULL), (.ref a_LIKE), (.ref a_NOT_LIKE), (.ref a_START), (.ref a_NOT_START), (.ref a_END), (.ref a_NOT_END), (.ref a_CONTAIN), (.ref a_NOT_CONTAIN), (.ref a_RX)] .null := Arv.set Ar91 q91 S91 M91 Hh91 G91 rfl W92 17 rfl (Nat.le_of_ble_eq_true rfl)
  have N92 := Fr.snoc X92 N87 g2
  have O94 : Old Z n0 h92 := Old.wr O89 W92 g2
  have gp95 : ∀ t, Steps p.tables e below (T92.setTop (mkF m 133 #[.val (.int p0), .val (.ref b1), .unset, .unset] [(.int ((p0 &&& (2147483647 : Int32)) % (18 : Int32)))])) t → Steps p.tables e below (s₁.setTop (entryFrame m #[(.int p0)] maxLocals)) t := fun t kt => pre0 t (by
    refine XS.bipush X0.here hx rfl (hb hby at_0) ?_
    show Steps p.tables e below (s₁.setTop (mkF m 2 #[.val (.int p0), .unset, .unset, .unset] [(.int (18 : Int32))])) _
    refine st1 _ ?_
    show Steps p.tables e below (T1.setTop (mkF m 5 #[.val (.int p0), .unset, .unset, .unset] [(.ref b1)])) _
    refine XS.dup X1.here hx rfl (hb hby at_5) rfl rfl ?_
    show Steps p.tables e below (T1.setTop (mkF m 6 #[.val (.int p0), .unset, .unset, .unset] [(.ref b1), (.ref b1)])) _
    refine XS.iconst X1.here hx rfl (hb hby at_6) ?_
    show Steps p.tables e below (T1.setTop (mkF m 7 #[.val (.int p0), .unset, .unset, .unset] [(.int (0 : Int32)), (.ref b1), (.ref b1)])) _
    refine st5 _ ?_
    show Steps p.tables e below (T5.setTop (mkF m 10 #[.val (.int p0), .unset, .unset, .unset] [(.ref a_EQ), (.int (0 : Int32)), (.ref b1), (.ref b1)])) _
    refine st7 _ ?_
    show Steps p.tables e below (T7.setTop (mkF m 11 #[.val (.int p0), .unset, .unset, .unset] [(.ref b1)])) _
    refine XS.dup X7.here hx rfl (hb hby at_11) rfl rfl ?_
    show Steps p.tables e below (T7.setTop (mkF m 12 #[.val (.int p0), .unset, .unset, .unset] [(.ref b1), (.ref b1)])) _
    refine XS.iconst X7.here hx rfl (hb hby at_12) ?_
    show Steps p.tables e below (T7.setTop (mkF m 13 #[.val (.int p0), .unset, .unset, .unset] [(.int (1 : Int32)), (.ref b1), (.ref b1)])) _
    refine st10 _ ?_
    show Steps p.tables e below (T10.setTop (mkF m 16 #[.val (.int p0), .unset, .unset, .unset] [(.ref a_NE), (.int (1 : Int32)), (.ref b1), (.ref b1)])) _
    refine st12 _ ?_
    show Steps p.tables e below (T12.setTop (mkF m 17 #[.val (.int p0), .unset, .unset, .unset] [(.ref b1)])) _
    refine XS.dup X12.here hx rfl (hb hby at_17) rfl rfl ?_
    show Steps p.tables e below (T12.setTop (mkF m 18 #[.val (.int p0), .unset, .unset, .unset] [(.ref b1), (.ref b1)])) _
    refine XS.iconst X12.here hx rfl (hb hby at_18) ?_
    show Steps p.tables e below (T12.setTop (mkF m 19 #[.val (.int p0), .unset, .unset, .unset] [(.int (2 : Int32)), (.ref b1), (.ref b1)])) _
    refine st15 _ ?_
    show Steps p.tables e below (T15.setTop (mkF m 22 #[.val (.int p0), .unset, .unset, .unset] [(.ref a_GT), (.int (2 : Int32)), (.ref b1), (.ref b1)])) _
    refine st17 _ ?_
    show Steps p.tables e below (T17.setTop (mkF m 23 #[.val (.int p0), .unset, .unset, .unset] [(.ref b1)])) _
    refine XS.dup X17.here hx rfl (hb hby at_23) rfl rfl ?_
    show Steps p.tables e below (T17.setTop (mkF m 24 #[.val (.int p0), .unset, .unset, .unset] [(.ref b1), (.ref b1)])) _
    refine XS.iconst X17.here hx rfl (hb hby at_24) ?_
    show Steps p.tables e below (T17.setTop (mkF m 25 #[.val (.int p0), .unset, .unset, .unset] [(.int (3 : Int32)), (.ref b1), (.ref b1)])) _
    refine st20 _ ?_
    show Steps p.tables e below (T20.setTop (mkF m 28 #[.val (.int p0), .unset, .unset, .unset] [(.ref a_GE), (.int (3 : Int32)), (.ref b1), (.ref b1)])) _
    refine st22 _ ?_
    show Steps p.tables e below (T22.setTop (mkF m 29 #[.val (.int p0), .unset, .unset, .unset] [(.ref b1)])) _
    refine XS.dup X22.here hx rfl (hb hby at_29) rfl rfl ?_
    show Steps p.tables e below (T22.setTop (mkF m 30 #[.val (.int p0), .unset, .unset, .unset] [(.ref b1), (.ref b1)])) _
    refine XS.iconst X22.here hx rfl (hb hby at_30) ?_
    show Steps p.tables e below (T22.setTop (mkF m 31 #[.val (.int p0), .unset, .unset, .unset] [(.int (4 : Int32)), (.ref b1), (.ref b1)])) _
    refine st25 _ ?_
    show Steps p.tables e below (T25.setTop (mkF m 34 #[.val (.int p0), .unset, .unset, .unset] [(.ref a_LT), (.int (4 : Int32)), (.ref b1), (.ref b1)])) _
    refine st27 _ ?_
    show Steps p.tables e below (T27.setTop (mkF m 35 #[.val (.int p0), .unset, .unset, .unset] [(.ref b1)])) _
    refine XS.dup X27.here hx rfl (hb hby at_35) rfl rfl ?_
    show Steps p.tables e below (T27.setTop (mkF m 36 #[.val (.int p0), .unset, .unset, .unset] [(.ref b1), (.ref b1)])) _
    refine XS.iconst X27.here hx rfl (hb hby at_36) ?_
    show Steps p.tables e below (T27.setTop (mkF m 37 #[.val (.int p0), .unset, .unset, .unset] [(.int (5 : Int32)), (.ref b1), (.ref b1)])) _
    refine st30 _ ?_
    show Steps p.tables e below (T30.setTop (mkF m 40 #[.val (.int p0), .unset, .unset, .unset] [(.ref a_LE), (.int (5 : Int32)), (.ref b1), (.ref b1)])) _
    refine st32 _ ?_
    show Steps p.tables e below (T32.setTop (mkF m 41 #[.val (.int p0), .unset, .unset, .unset] [(.ref b1)])) _
    refine XS.dup X32.here hx rfl (hb hby at_41) rfl rfl ?_
    show Steps p.tables e below (T32.setTop (mkF m 42 #[.val (.int p0), .unset, .unset, .unset] [(.ref b1), (.ref b1)])) _
    refine XS.bipush X32.here hx rfl (hb hby at_42) ?_
    show Steps p.tables e below (T32.setTop (mkF m 44 #[.val (.int p0), .unset, .unset, .unset] [(.int (6 : Int32)), (.ref b1), (.ref b1)])) _
    refine st35 _ ?_
    show Steps p.tables e below (T35.setTop (mkF m 47 #[.val (.int p0), .unset, .unset, .unset] [(.ref a_IN), (.int (6 : Int32)), (.ref b1), (.ref b1)])) _
    refine st37 _ ?_
    show Steps p.tables e below (T37.setTop (mkF m 48 #[.val (.int p0), .unset, .unset, .unset] [(.ref b1)])) _
    refine XS.dup X37.here hx rfl (hb hby at_48) rfl rfl ?_
    show Steps p.tables e below (T37.setTop (mkF m 49 #[.val (.int p0), .unset, .unset, .unset] [(.ref b1), (.ref b1)])) _
    refine XS.bipush X37.here hx rfl (hb hby at_49) ?_
    show Steps p.tables e below (T37.setTop (mkF m 51 #[.val (.int p0), .unset, .unset, .unset] [(.int (7 : Int32)), (.ref b1), (.ref b1)])) _
    refine st40 _ ?_
    show Steps p.tables e below (T40.setTop (mkF m 54 #[.val (.int p0), .unset, .unset, .unset] [(.ref a_NOT_IN), (.int (7 : Int32)), (.ref b1), (.ref b1)])) _
    refine st42 _ ?_
    show Steps p.tables e below (T42.setTop (mkF m 55 #[.val (.int p0), .unset, .unset, .unset] [(.ref b1)])) _
    refine XS.dup X42.here hx rfl (hb hby at_55) rfl rfl ?_
    show Steps p.tables e below (T42.setTop (mkF m 56 #[.val (.int p0), .unset, .unset, .unset] [(.ref b1), (.ref b1)])) _
    refine XS.bipush X42.here hx rfl (hb hby at_56) ?_
    show Steps p.tables e below (T42.setTop (mkF m 58 #[.val (.int p0), .unset, .unset, .unset] [(.int (8 : Int32)), (.ref b1), (.ref b1)])) _
    refine st45 _ ?_
    show Steps p.tables e below (T45.setTop (mkF m 61 #[.val (.int p0), .unset, .unset, .unset] [(.ref a_NULL), (.int (8 : Int32)), (.ref b1), (.ref b1)])) _
    refine st47 _ ?_
    show Steps p.tables e below (T47.setTop (mkF m 62 #[.val (.int p0), .unset, .unset, .unset] [(.ref b1)])) _
    refine XS.dup X47.here hx rfl (hb hby at_62) rfl rfl ?_
    show Steps p.tables e below (T47.setTop (mkF m 63 #[.val (.int p0), .unset, .unset, .unset] [(.ref b1), (.ref b1)])) _
    refine XS.bipush X47.here hx rfl (hb hby at_63) ?_
    show Steps p.tables e below (T47.setTop (mkF m 65 #[.val (.int p0), .unset, .unset, .unset] [(.int (9 : Int32)), (.ref b1), (.ref b1)])) _
    refine st50 _ ?_
    show Steps p.tables e below (T50.setTop (mkF m 68 #[.val (.int p0), .unset, .unset, .unset] [(.ref a_LIKE), (.int (9 : Int32)), (.ref b1), (.ref b1)])) _
    refine st52 _ ?_
    show Steps p.tables e below (T52.setTop (mkF m 69 #[.val (.int p0), .unset, .unset, .unset] [(.ref b1)])) _
    refine XS.dup X52.here hx rfl (hb hby at_69) rfl rfl ?_
    show Steps p.tables e below (T52.setTop (mkF m 70 #[.val (.int p0), .unset, .unset, .unset] [(.ref b1), (.ref b1)])) _
    refine XS.bipush X52.here hx rfl (hb hby at_70) ?_
    show Steps p.tables e below (T52.setTop (mkF m 72 #[.val (.int p0), .unset, .unset, .unset] [(.int (10 : Int32)), (.ref b1), (.ref b1)])) _
    refine st55 _ ?_
    show Steps p.tables e below (T55.setTop (mkF m 75 #[.val (.int p0), .unset, .unset, .unset] [(.ref a_NOT_LIKE), (.int (10 : Int32)), (.ref b1), (.ref b1)])) _
    refine st57 _ ?_
    show Steps p.tables e below (T57.setTop (mkF m 76 #[.val (.int p0), .unset, .unset, .unset] [(.ref b1)])) _
    refine XS.dup X57.here hx rfl (hb hby at_76) rfl rfl ?_
    show Steps p.tables e below (T57.setTop (mkF m 77 #[.val (.int p0), .unset, .unset, .unset] [(.ref b1), (.ref b1)])) _
    refine XS.bipush X57.here hx rfl (hb hby at_77) ?_
    show Steps p.tables e below (T57.setTop (mkF m 79 #[.val (.int p0), .unset, .unset, .unset] [(.int (11 : Int32)), (.ref b1), (.ref b1)])) _
    refine st60 _ ?_
    show Steps p.tables e below (T60.setTop (mkF m 82 #[.val (.int p0), .unset, .unset, .unset] [(.ref a_START), (.int (11 : Int32)), (.ref b1), (.ref b1)])) _
    refine st62 _ ?_
    show Steps p.tables e below (T62.setTop (mkF m 83 #[.val (.int p0), .unset, .unset, .unset] [(.ref b1)])) _
    refine XS.dup X62.here hx rfl (hb hby at_83) rfl rfl ?_
    show Steps p.tables e below (T62.setTop (mkF m 84 #[.val (.int p0), .unset, .unset, .unset] [(.ref b1), (.ref b1)])) _
    refine XS.bipush X62.here hx rfl (hb hby at_84) ?_
    show Steps p.tables e below (T62.setTop (mkF m 86 #[.val (.int p0), .unset, .unset, .unset] [(.int (12 : Int32)), (.ref b1), (.ref b1)])) _
    refine st65 _ ?_
    show Steps p.tables e below (T65.setTop (mkF m 89 #[.val (.int p0), .unset, .unset, .unset] [(.ref a_NOT_START), (.int (12 : Int32)), (.ref b1), (.ref b1)])) _
    refine st67 _ ?_
    show Steps p.tables e below (T67.setTop (mkF m 90 #[.val (.int p0), .unset, .unset, .unset] [(.ref b1)])) _
    refine XS.dup X67.here hx rfl (hb hby at_90) rfl rfl ?_
    show Steps p.tables e below (T67.setTop (mkF m 91 #[.val (.int p0), .unset, .unset, .unset] [(.ref b1), (.ref b1)])) _
    refine XS.bipush X67.here hx rfl (hb hby at_91) ?_
    show Steps p.tables e below (T67.setTop (mkF m 93 #[.val (.int p0), .unset, .unset, .unset] [(.int (13 : Int32)), (.ref b1), (.ref b1)])) _
    refine st70 _ ?_
    show Steps p.tables e below (T70.setTop (mkF m 96 #[.val (.int p0), .unset, .unset, .unset] [(.ref a_END), (.int (13 : Int32)), (.ref b1), (.ref b1)])) _
    refine st72 _ ?_
    show Steps p.tables e below (T72.setTop (mkF m 97 #[.val (.int p0), .unset, .unset, .unset] [(.ref b1)])) _
    refine XS.dup X72.here hx rfl (hb hby at_97) rfl rfl ?_
    show Steps p.tables e below (T72.setTop (mkF m 98 #[.val (.int p0), .unset, .unset, .unset] [(.ref b1), (.ref b1)])) _
    refine XS.bipush X72.here hx rfl (hb hby at_98) ?_
    show Steps p.tables e below (T72.setTop (mkF m 100 #[.val (.int p0), .unset, .unset, .unset] [(.int (14 : Int32)), (.ref b1), (.ref b1)])) _
    refine st75 _ ?_
    show Steps p.tables e below (T75.setTop (mkF m 103 #[.val (.int p0), .unset, .unset, .unset] [(.ref a_NOT_END), (.int (14 : Int32)), (.ref b1), (.ref b1)])) _
    refine st77 _ ?_
    show Steps p.tables e below (T77.setTop (mkF m 104 #[.val (.int p0), .unset, .unset, .unset] [(.ref b1)])) _
    refine XS.dup X77.here hx rfl (hb hby at_104) rfl rfl ?_
    show Steps p.tables e below (T77.setTop (mkF m 105 #[.val (.int p0), .unset, .unset, .unset] [(.ref b1), (.ref b1)])) _
    refine XS.bipush X77.here hx rfl (hb hby at_105) ?_
    show Steps p.tables e below (T77.setTop (mkF m 107 #[.val (.int p0), .unset, .unset, .unset] [(.int (15 : Int32)), (.ref b1), (.ref b1)])) _
    refine st80 _ ?_
    show Steps p.tables e below (T80.setTop (mkF m 110 #[.val (.int p0), .unset, .unset, .unset] [(.ref a_CONTAIN), (.int (15 : Int32)), (.ref b1), (.ref b1)])) _
    refine st82 _ ?_
    show Steps p.tables e below (T82.setTop (mkF m 111 #[.val (.int p0), .unset, .unset, .unset] [(.ref b1)])) _
    refine XS.dup X82.here hx rfl (hb hby at_111) rfl rfl ?_
    show Steps p.tables e below (T82.setTop (mkF m 112 #[.val (.int p0), .unset, .unset, .unset] [(.ref b1), (.ref b1)])) _
    refine XS.bipush X82.here hx rfl (hb hby at_112) ?_
    show Steps p.tables e below (T82.setTop (mkF m 114 #[.val (.int p0), .unset, .unset, .unset] [(.int (16 : Int32)), (.ref b1), (.ref b1)])) _
    refine st85 _ ?_
    show Steps p.tables e below (T85.setTop (mkF m 117 #[.val (.int p0), .unset, .unset, .unset] [(.ref a_NOT_CONTAIN), (.int (16 : Int32)), (.ref b1), (.ref b1)])) _
    refine st87 _ ?_
    show Steps p.tables e below (T87.setTop (mkF m 118 #[.val (.int p0), .unset, .unset, .unset] [(.ref b1)])) _
    refine XS.dup X87.here hx rfl (hb hby at_118) rfl rfl ?_
    show Steps p.tables e below (T87.setTop (mkF m 119 #[.val (.int p0), .unset, .unset, .unset] [(.ref b1), (.ref b1)])) _
    refine XS.bipush X87.here hx rfl (hb hby at_119) ?_
    show Steps p.tables e below (T87.setTop (mkF m 121 #[.val (.int p0), .unset, .unset, .unset] [(.int (17 : Int32)), (.ref b1), (.ref b1)])) _
    refine st90 _ ?_
    show Steps p.tables e below (T90.setTop (mkF m 124 #[.val (.int p0), .unset, .unset, .unset] [(.ref a_RX), (.int (17 : Int32)), (.ref b1), (.ref b1)])) _
    refine st92 _ ?_
    show Steps p.tables e below (T92.setTop (mkF m 125 #[.val (.int p0), .unset, .unset, .unset] [(.ref b1)])) _
    refine XS.astoreN X92.here hx rfl (hb hby at_125) rfl rfl (l' := #[.val (.int p0), .val (.ref b1), .unset, .unset]) rfl ?_
    show Steps p.tables e below (T92.setTop (mkF m 126 #[.val (.int p0), .val (.ref b1), .unset, .unset] [])) _
    refine XS.iloadN X92.here hx rfl (hb hby at_126) rfl ?_
    show Steps p.tables e below (T92.setTop (mkF m 127 #[.val (.int p0), .val (.ref b1), .unset, .unset] [(.int p0)])) _
    refine X92.ldcInt hx hown (mvT hZ (hw _ (List.mem_of_getElem? (i := 40) rfl))) (g := (mkF m 127 #[.val (.int p0), .val (.ref b1), .unset, .unset] [(.int p0)])) rfl (hb hby at_127) _ ?_
    show Steps p.tables e below (T92.setTop (mkF m 129 #[.val (.int p0), .val (.ref b1), .unset, .unset] [(.int (2147483647 : Int32)), (.int p0)])) _
    refine XS.iand X92.here hx rfl (hb hby at_129) rfl ?_
    show Steps p.tables e below (T92.setTop (mkF m 130 #[.val (.int p0), .val (.ref b1), .unset, .unset] [(.int (p0 &&& (2147483647 : Int32)))])) _
    refine XS.bipush X92.here hx rfl (hb hby at_130) ?_
    show Steps p.tables e below (T92.setTop (mkF m 132 #[.val (.int p0), .val (.ref b1), .unset, .unset] [(.int (18 : Int32)), (.int (p0 &&& (2147483647 : Int32)))])) _
    refine iremM X92 hx rfl (hb hby at_132) rfl (by decide) ?_
    show Steps p.tables e below (T92.setTop (mkF m 133 #[.val (.int p0), .val (.ref b1), .unset, .unset] [(.int ((p0 &&& (2147483647 : Int32)) % (18 : Int32)))])) _
    exact kt)
  rcases own_mod18 p0 with hk | hk | hk | hk | hk | hk | hk | hk | hk | hk | hk | hk | hk | hk | hk | hk | hk | hk
  · have gp96 := gp95
    rw [hk] at gp96
    obtain ⟨c97, Ar97, q97, S97, M97, Hh97, G97⟩ := (id v93)
    have hin97 : ¬ ((0 : Int32) < 0 ∨ c97.slots.size ≤ ((0 : Int32)).toNatClampNeg) := inb_of S97 ⟨by decide, by decide⟩
    have hat97 : c97.slots[((0 : Int32)).toNatClampNeg]? = some (.ref a_EQ) := Hh97.at hin97 rfl
    obtain ⟨cq98, kq98, q98a, q98b, q98c⟩ := isOf hZ e92 ((hS.1.ext O94.2))
    obtain ⟨_, _, ⟨T98, L98, k98, n98⟩, -, X98, ⟨Lc98, hQ98, l98, y98, z98⟩, st98⟩ := X92.virtualBack hx (y := (⟨"com/example/rows_by_rule/rowsbyrule/query/FieldOperator", "takesSubquery", "()Z"⟩ : MethodName)) (z := (⟨"com/example/rows_by_rule/rowsbyrule/query/FieldOperator", "takesSubquery", "()Z"⟩ : MethodName)) hown (mvT hZ (hw _ (List.mem_of_getElem? (i := 41) rfl))) (mvT hZ (hw _ (List.mem_of_getElem? (i := 42) rfl))) (notFace_of_selects (args := #[]) (mvT hZ (hw _ (List.mem_of_getElem? (i := 44) rfl)))) (mvT hZ (hw _ (List.mem_of_getElem? (i := 44) rfl))) (mvT hZ (hw _ (List.mem_of_getElem? (i := 43) rfl))) (by decide) (backOf (W := 0) (rm1 l Z a0 hw [] a_EQ a_NE a_GT a_GE a_LT a_LE a_IN a_NOT_IN a_NULL a_LIKE a_NOT_LIKE a_START a_NOT_START a_END a_NOT_END a_CONTAIN a_NOT_CONTAIN a_RX a_COMPARISON a_LIST a_PATTERN a_NULL_TEST hS a_EQ a_COMPARISON (1 : Int32) h92 n0 O94 (hS.2.2.2.2.2.2.2.2.2.2.2.2.2.2.2.2.2.2.2.2.2.2.2.2.2.2.2.2.2.2.2.2.2.2.2.2.2.2.1.ext O94.2) ⟨fun q => absurd q (Fld.ne hS.2.2.2.2.2.2.2.2.2.2.2.2.2.2.2.2.2.2.2.2.2.2.2.2.2.2.2.2.2.2.2.2.2.2.2.2.2.2.2.2.2.1 hS.2.2.2.2.2.2.2.2.2.2.2.2.2.2.2.2.2.2.2.2.2.2.2.2.2.2.2.2.2.2.2.2.2.2.2.2.2.2.2.2.2.2.1 (fun q => absurd (Value.int.inj q) (by decide))), fun _ q => absurd rfl q, fun _ _ q => absurd q (Fld.ne hS.2.2.2.2.2.2.2.2.2.2.2.2.2.2.2.2.2.2.2.2.2.2.2.2.2.2.2.2.2.2.2.2.2.2.2.2.2.2.2.2.2.2.2.1 hS.2.2.2.2.2.2.2.2.2.2.2.2.2.2.2.2.2.2.2.2.2.2.2.2.2.2.2.2.2.2.2.2.2.2.2.2.2.2.2.2.2.2.2.2.1 (fun q => absurd (Value.int.inj q) (by decide))), fun _ _ _ => rfl⟩) hZ (hw _ (List.mem_of_getElem? (i := 45) rfl)) (hw _ (List.mem_of_getElem? (i := 3) rfl)) (by decide) (by decide)) q98a q98c (g := (mkF m 149 #[.val (.int p0), .val (.ref b1), .val (.int (0 : Int32)), .val (.int (1 : Int32))] [(.ref a_EQ)])) rfl (by rw [hml]; rfl) (Steps.refl _) (argsL := []) (rest := []) (lenOf pd_0 rfl) rfl (by show 2 * 0 + _ ≤ _; exact Nat.le_of_eq rfl) (hb hby at_149) (fun _ _ => ⟨rfl, e92, (by decide : 1 + 0 ≤ _), (by decide : 18 + 0 ≤ _)⟩)
    dsimp only [Pt.U, Pt.locs, Pt.cells, Pt.slots] at X98 l98 y98 z98 st98 hQ98
    have X98 := own_to X98 l98 y98 z98
    obtain ⟨rfl, N98q, e98⟩ := hQ98
    have N98 := Fr.app N92 N98q
    obtain ⟨fs, hr, hrun, hended, hW, hsame⟩ := X98.leave (v := (some (.int (1 : Int32)))) (fun h => by rw [Bd.returns] at h; cases h)
    refine ⟨_, _, gp96 _ ?_, hrun, hended, _, _, rfl, ?_, ⟨_, rfl⟩, hW, hsame.mono (by decide) (by decide)⟩
    · refine XS.istoreN X92.here hx rfl (hb hby at_133) rfl (l' := #[.val (.int p0), .val (.ref b1), .val (.int (0 : Int32)), .unset]) rfl ?_
      show Steps p.tables e below (T92.setTop (mkF m 134 #[.val (.int p0), .val (.ref b1), .val (.int (0 : Int32)), .unset] [])) _
      refine XS.iloadN X92.here hx rfl (hb hby at_134) rfl ?_
      show Steps p.tables e below (T92.setTop (mkF m 135 #[.val (.int p0), .val (.ref b1), .val (.int (0 : Int32)), .unset] [(.int (0 : Int32))])) _
      refine XS.bipush X92.here hx rfl (hb hby at_135) ?_
      show Steps p.tables e below (T92.setTop (mkF m 137 #[.val (.int p0), .val (.ref b1), .val (.int (0 : Int32)), .unset] [(.int (8 : Int32)), (.int (0 : Int32))])) _
      refine XS.icmpNo X92.here hx rfl (hb hby at_137) rfl (tlt (by decide : (0 : Int32) < (8 : Int32))).2.1 ?_
      show Steps p.tables e below (T92.setTop (mkF m 140 #[.val (.int p0), .val (.ref b1), .val (.int (0 : Int32)), .unset] [])) _
      refine XS.iconst X92.here hx rfl (hb hby at_140) ?_
      show Steps p.tables e below (T92.setTop (mkF m 141 #[.val (.int p0), .val (.ref b1), .val (.int (0 : Int32)), .unset] [(.int (1 : Int32))])) _
      refine XS.goto X92.here hx rfl (pc0 := 141) (pc' := 145) rfl (hb hby at_141) (by decide) (by decide) ?_
      show Steps p.tables e below (T92.setTop (mkF m 145 #[.val (.int p0), .val (.ref b1), .val (.int (0 : Int32)), .unset] [(.int (1 : Int32))])) _
      refine XS.istoreN X92.here hx rfl (hb hby at_145) rfl (l' := #[.val (.int p0), .val (.ref b1), .val (.int (0 : Int32)), .val (.int (1 : Int32))]) rfl ?_
      show Steps p.tables e below (T92.setTop (mkF m 146 #[.val (.int p0), .val (.ref b1), .val (.int (0 : Int32)), .val (.int (1 : Int32))] [])) _
      refine XS.aloadN X92.here hx rfl (hb hby at_146) rfl rfl ?_
      show Steps p.tables e below (T92.setTop (mkF m 147 #[.val (.int p0), .val (.ref b1), .val (.int (0 : Int32)), .val (.int (1 : Int32))] [(.ref b1)])) _
      refine XS.iloadN X92.here hx rfl (hb hby at_147) rfl ?_
      show Steps p.tables e below (T92.setTop (mkF m 148 #[.val (.int p0), .val (.ref b1), .val (.int (0 : Int32)), .val (.int (1 : Int32))] [(.int (0 : Int32)), (.ref b1)])) _
      refine X92.aaload hx (j := (0 : Int32)) (v := (.ref a_EQ)) (by rw [e92]; exact Ar97.1) (State.isArrayOf_alike hZ.alike Ar97.2.1) rfl Ar97.2.2 hin97 hat97 (g := (mkF m 148 #[.val (.int p0), .val (.ref b1), .val (.int (0 : Int32)), .val (.int (1 : Int32))] [(.int (0 : Int32)), (.ref b1)])) rfl rfl (hb hby at_148) _ ?_
      show Steps p.tables e below (T92.setTop (mkF m 149 #[.val (.int p0), .val (.ref b1), .val (.int (0 : Int32)), .val (.int (1 : Int32))] [(.ref a_EQ)])) _
      refine st98.trans ?_
      show Steps p.tables e below (T98.setTop (mkF m 152 #[.val (.int p0), .val (.ref b1), .val (.int (0 : Int32)), .val (.int (1 : Int32))] [(.int (1 : Int32))])) _
      refine XS.iloadN X98.here hx rfl (hb hby at_152) rfl ?_
      show Steps p.tables e below (T98.setTop (mkF m 153 #[.val (.int p0), .val (.ref b1), .val (.int (0 : Int32)), .val (.int (1 : Int32))] [(.int (1 : Int32)), (.int (1 : Int32))])) _
      refine XS.icmpNo X98.here hx rfl (hb hby at_153) rfl (teq (by decide : (1 : Int32) = (1 : Int32))).2 ?_
      show Steps p.tables e below (T98.setTop (mkF m 156 #[.val (.int p0), .val (.ref b1), .val (.int (0 : Int32)), .val (.int (1 : Int32))] [])) _
      refine XS.iconst X98.here hx rfl (hb hby at_156) ?_
      show Steps p.tables e below (T98.setTop (mkF m 157 #[.val (.int p0), .val (.ref b1), .val (.int (0 : Int32)), .val (.int (1 : Int32))] [(.int (1 : Int32))])) _
      refine XS.goto X98.here hx rfl (pc0 := 157) (pc' := 161) rfl (hb hby at_157) (by decide) (by decide) ?_
      show Steps p.tables e below (T98.setTop (mkF m 161 #[.val (.int p0), .val (.ref b1), .val (.int (0 : Int32)), .val (.int (1 : Int32))] [(.int (1 : Int32))])) _
      exact retN X98 hx (t := .boolean) Bd.returns (by simp) (hb hby at_161) hr
    · show Q0 n0 _ T98.heap _
      rw [e98]
      exact ⟨rfl, N98⟩
  · have gp99 := gp95
    rw [hk] at gp99
    obtain ⟨c100, Ar100, q100, S100, M100, Hh100, G100⟩ := (id v93)
    have hin100 : ¬ ((1 : Int32) < 0 ∨ c100.slots.size ≤ ((1 : Int32)).toNatClampNeg) := inb_of S100 ⟨by decide, by decide⟩
    have hat100 : c100.slots[((1 : Int32)).toNatClampNeg]? = some (.ref a_NE) := Hh100.at hin100 rfl
    obtain ⟨cq101, kq101, q101a, q101b, q101c⟩ := isOf hZ e92 ((hS.2.2.1.ext O94.2))
    obtain ⟨_, _, ⟨T101, L101, k101, n101⟩, -, X101, ⟨Lc101, hQ101, l101, y101, z101⟩, st101⟩ := X92.virtualBack hx (y := (⟨"com/example/rows_by_rule/rowsbyrule/query/FieldOperator", "takesSubquery", "()Z"⟩ : MethodName)) (z := (⟨"com/example/rows_by_rule/rowsbyrule/query/FieldOperator", "takesSubquery", "()Z"⟩ : MethodName)) hown (mvT hZ (hw _ (List.mem_of_getElem? (i := 41) rfl))) (mvT hZ (hw _ (List.mem_of_getElem? (i := 42) rfl))) (notFace_of_selects (args := #[]) (mvT hZ (hw _ (List.mem_of_getElem? (i := 44) rfl)))) (mvT hZ (hw _ (List.mem_of_getElem? (i := 44) rfl))) (mvT hZ (hw _ (List.mem_of_getElem? (i := 43) rfl))) (by decide) (backOf (W := 0) (rm1 l Z a0 hw [] a_EQ a_NE a_GT a_GE a_LT a_LE a_IN a_NOT_IN a_NULL a_LIKE a_NOT_LIKE a_START a_NOT_START a_END a_NOT_END a_CONTAIN a_NOT_CONTAIN a_RX a_COMPARISON a_LIST a_PATTERN a_NULL_TEST hS a_NE a_COMPARISON (1 : Int32) h92 n0 O94 (hS.2.2.2.2.2.2.2.2.2.2.2.2.2.2.2.2.2.2.2.2.2.2.2.2.2.2.2.2.2.2.2.2.2.2.2.2.2.2.2.2.2.2.2.2.2.2.2.2.2.1.ext O94.2) ⟨fun q => absurd q (Fld.ne hS.2.2.2.2.2.2.2.2.2.2.2.2.2.2.2.2.2.2.2.2.2.2.2.2.2.2.2.2.2.2.2.2.2.2.2.2.2.2.2.2.2.1 hS.2.2.2.2.2.2.2.2.2.2.2.2.2.2.2.2.2.2.2.2.2.2.2.2.2.2.2.2.2.2.2.2.2.2.2.2.2.2.2.2.2.2.1 (fun q => absurd (Value.int.inj q) (by decide))), fun _ q => absurd rfl q, fun _ _ q => absurd q (Fld.ne hS.2.2.2.2.2.2.2.2.2.2.2.2.2.2.2.2.2.2.2.2.2.2.2.2.2.2.2.2.2.2.2.2.2.2.2.2.2.2.2.2.2.2.2.2.2.2.2.2.2.2.1 hS.2.2.2.2.2.2.2.2.2.2.2.2.2.2.2.2.2.2.2.2.2.2.2.2.2.2.2.2.2.2.2.2.2.2.2.2.2.2.2.2.2.2.2.2.1 (fun q => absurd (Value.int.inj q) (by decide))), fun _ _ _ => rfl⟩) hZ (hw _ (List.mem_of_getElem? (i := 45) rfl)) (hw _ (List.mem_of_getElem? (i := 3) rfl)) (by decide) (by decide)) q101a q101c (g := (mkF m 149 #[.val (.int p0), .val (.ref b1), .val (.int (1 : Int32)), .val (.int (1 : Int32))] [(.ref a_NE)])) rfl (by rw [hml]; rfl) (Steps.refl _) (argsL := []) (rest := []) (lenOf pd_0 rfl) rfl (by show 2 * 0 + _ ≤ _; exact Nat.le_of_eq rfl) (hb hby at_149) (fun _ _ => ⟨rfl, e92, (by decide : 1 + 0 ≤ _), (by decide : 18 + 0 ≤ _)⟩)
    dsimp only [Pt.U, Pt.locs, Pt.cells, Pt.slots] at X101 l101 y101 z101 st101 hQ101
    have X101 := own_to X101 l101 y101 z101
    obtain ⟨rfl, N101q, e101⟩ := hQ101
    have N101 := Fr.app N92 N101q
    obtain ⟨fs, hr, hrun, hended, hW, hsame⟩ := X101.leave (v := (some (.int (1 : Int32)))) (fun h => by rw [Bd.returns] at h; cases h)
    refine ⟨_, _, gp99 _ ?_, hrun, hended, _, _, rfl, ?_, ⟨_, rfl⟩, hW, hsame.mono (by decide) (by decide)⟩
    · refine XS.istoreN X92.here hx rfl (hb hby at_133) rfl (l' := #[.val (.int p0), .val (.ref b1), .val (.int (1 : Int32)), .unset]) rfl ?_
      show Steps p.tables e below (T92.setTop (mkF m 134 #[.val (.int p0), .val (.ref b1), .val (.int (1 : Int32)), .unset] [])) _
      refine XS.iloadN X92.here hx rfl (hb hby at_134) rfl ?_
      show Steps p.tables e below (T92.setTop (mkF m 135 #[.val (.int p0), .val (.ref b1), .val (.int (1 : Int32)), .unset] [(.int (1 : Int32))])) _
      refine XS.bipush X92.here hx rfl (hb hby at_135) ?_
      show Steps p.tables e below (T92.setTop (mkF m 137 #[.val (.int p0), .val (.ref b1), .val (.int (1 : Int32)), .unset] [(.int (8 : Int32)), (.int (1 : Int32))])) _
      refine XS.icmpNo X92.here hx rfl (hb hby at_137) rfl (tlt (by decide : (1 : Int32) < (8 : Int32))).2.1 ?_
      show Steps p.tables e below (T92.setTop (mkF m 140 #[.val (.int p0), .val (.ref b1), .val (.int (1 : Int32)), .unset] [])) _
      refine XS.iconst X92.here hx rfl (hb hby at_140) ?_
      show Steps p.tables e below (T92.setTop (mkF m 141 #[.val (.int p0), .val (.ref b1), .val (.int (1 : Int32)), .unset] [(.int (1 : Int32))])) _
      refine XS.goto X92.here hx rfl (pc0 := 141) (pc' := 145) rfl (hb hby at_141) (by decide) (by decide) ?_
      show Steps p.tables e below (T92.setTop (mkF m 145 #[.val (.int p0), .val (.ref b1), .val (.int (1 : Int32)), .unset] [(.int (1 : Int32))])) _
      refine XS.istoreN X92.here hx rfl (hb hby at_145) rfl (l' := #[.val (.int p0), .val (.ref b1), .val (.int (1 : Int32)), .val (.int (1 : Int32))]) rfl ?_
      show Steps p.tables e below (T92.setTop (mkF m 146 #[.val (.int p0), .val (.ref b1), .val (.int (1 : Int32)), .val (.int (1 : Int32))] [])) _
      refine XS.aloadN X92.here hx rfl (hb hby at_146) rfl rfl ?_
      show Steps p.tables e below (T92.setTop (mkF m 147 #[.val (.int p0), .val (.ref b1), .val (.int (1 : Int32)), .val (.int (1 : Int32))] [(.ref b1)])) _
      refine XS.iloadN X92.here hx rfl (hb hby at_147) rfl ?_
      show Steps p.tables e below (T92.setTop (mkF m 148 #[.val (.int p0), .val (.ref b1), .val (.int (1 : Int32)), .val (.int (1 : Int32))] [(.int (1 : Int32)), (.ref b1)])) _
      refine X92.aaload hx (j := (1 : Int32)) (v := (.ref a_NE)) (by rw [e92]; exact Ar100.1) (State.isArrayOf_alike hZ.alike Ar100.2.1) rfl Ar100.2.2 hin100 hat100 (g := (mkF m 148 #[.val (.int p0), .val (.ref b1), .val (.int (1 : Int32)), .val (.int (1 : Int32))] [(.int (1 : Int32)), (.ref b1)])) rfl rfl (hb hby at_148) _ ?_
      show Steps p.tables e below (T92.setTop (mkF m 149 #[.val (.int p0), .val (.ref b1), .val (.int (1 : Int32)), .val (.int (1 : Int32))] [(.ref a_NE)])) _
      refine st101.trans ?_
      show Steps p.tables e below (T101.setTop (mkF m 152 #[.val (.int p0), .val (.ref b1), .val (.int (1 : Int32)), .val (.int (1 : Int32))] [(.int (1 : Int32))])) _
      refine XS.iloadN X101.here hx rfl (hb hby at_152) rfl ?_
      show Steps p.tables e below (T101.setTop (mkF m 153 #[.val (.int p0), .val (.ref b1), .val (.int (1 : Int32)), .val (.int (1 : Int32))] [(.int (1 : Int32)), (.int (1 : Int32))])) _
      refine XS.icmpNo X101.here hx rfl (hb hby at_153) rfl (teq (by decide : (1 : Int32) = (1 : Int32))).2 ?_
      show Steps p.tables e below (T101.setTop (mkF m 156 #[.val (.int p0), .val (.ref b1), .val (.int (1 : Int32)), .val (.int (1 : Int32))] [])) _
      refine XS.iconst X101.here hx rfl (hb hby at_156) ?_
      show Steps p.tables e below (T101.setTop (mkF m 157 #[.val (.int p0), .val (.ref b1), .val (.int (1 : Int32)), .val (.int (1 : Int32))] [(.int (1 : Int32))])) _
      refine XS.goto X101.here hx rfl (pc0 := 157) (pc' := 161) rfl (hb hby at_157) (by decide) (by decide) ?_
      show Steps p.tables e below (T101.setTop (mkF m 161 #[.val (.int p0), .val (.ref b1), .val (.int (1 : Int32)), .val (.int (1 : Int32))] [(.int (1 : Int32))])) _
      exact retN X101 hx (t := .boolean) Bd.returns (by simp) (hb hby at_161) hr
    · show Q0 n0 _ T101.heap _
      rw [e101]
      exact ⟨rfl, N101⟩
  · have gp102 := gp95
    rw [hk] at gp102
    obtain ⟨c103, Ar103, q103, S103, M103, Hh103, G103⟩ := (id v93)
    have hin103 : ¬ ((2 : Int32) < 0 ∨ c103.slots.size ≤ ((2 : Int32)).toNatClampNeg) := inb_of S103 ⟨by decide, by decide⟩
    have hat103 : c103.slots[((2 : Int32)).toNatClampNeg]? = some (.ref a_GT) := Hh103.at hin103 rfl
    obtain ⟨cq104, kq104, q104a, q104b, q104c⟩ := isOf hZ e92 ((hS.2.2.2.2.1.ext O94.2))
    obtain ⟨_, _, ⟨T104, L104, k104, n104⟩, -, X104, ⟨Lc104, hQ104, l104, y104, z104⟩, st104⟩ := X92.virtualBack hx (y := (⟨"com/example/rows_by_rule/rowsbyrule/query/FieldOperator", "takesSubquery", "()Z"⟩ : MethodName)) (z := (⟨"com/example/rows_by_rule/rowsbyrule/query/FieldOperator", "takesSubquery", "()Z"⟩ : MethodName)) hown (mvT hZ (hw _ (List.mem_of_getElem? (i := 41) rfl))) (mvT hZ (hw _ (List.mem_of_getElem? (i := 42) rfl))) (notFace_of_selects (args := #[]) (mvT hZ (hw _ (List.mem_of_getElem? (i := 44) rfl)))) (mvT hZ (hw _ (List.mem_of_getElem? (i := 44) rfl))) (mvT hZ (hw _ (List.mem_of_getElem? (i := 43) rfl))) (by decide) (backOf (W := 0) (rm1 l Z a0 hw [] a_EQ a_NE a_GT a_GE a_LT a_LE a_IN a_NOT_IN a_NULL a_LIKE a_NOT_LIKE a_START a_NOT_START a_END a_NOT_END a_CONTAIN a_NOT_CONTAIN a_RX a_COMPARISON a_LIST a_PATTERN a_NULL_TEST hS a_GT a_COMPARISON (1 : Int32) h92 n0 O94 (hS.2.2.2.2.2.2.2.2.2.2.2.2.2.2.2.2.2.2.2.2.2.2.2.2.2.2.2.2.2.2.2.2.2.2.2.2.2.2.2.2.2.2.2.2.2.2.2.1.ext O94.2) ⟨fun q => absurd q (Fld.ne hS.2.2.2.2.2.2.2.2.2.2.2.2.2.2.2.2.2.2.2.2.2.2.2.2.2.2.2.2.2.2.2.2.2.2.2.2.2.2.2.2.2.1 hS.2.2.2.2.2.2.2.2.2.2.2.2.2.2.2.2.2.2.2.2.2.2.2.2.2.2.2.2.2.2.2.2.2.2.2.2.2.2.2.2.2.2.1 (fun q => absurd (Value.int.inj q) (by decide))), fun _ q => absurd rfl q, fun _ _ q => absurd q (Fld.ne hS.2.2.2.2.2.2.2.2.2.2.2.2.2.2.2.2.2.2.2.2.2.2.2.2.2.2.2.2.2.2.2.2.2.2.2.2.2.2.2.2.2.2.2.2.2.2.2.2.1 hS.2.2.2.2.2.2.2.2.2.2.2.2.2.2.2.2.2.2.2.2.2.2.2.2.2.2.2.2.2.2.2.2.2.2.2.2.2.2.2.2.2.2.2.2.1 (fun q => absurd (Value.int.inj q) (by decide))), fun _ _ _ => rfl⟩) hZ (hw _ (List.mem_of_getElem? (i := 45) rfl)) (hw _ (List.mem_of_getElem? (i := 3) rfl)) (by decide) (by decide)) q104a q104c (g := (mkF m 149 #[.val (.int p0), .val (.ref b1), .val (.int (2 : Int32)), .val (.int (1 : Int32))] [(.ref a_GT)])) rfl (by rw [hml]; rfl) (Steps.refl _) (argsL := []) (rest := []) (lenOf pd_0 rfl) rfl (by show 2 * 0 + _ ≤ _; exact Nat.le_of_eq rfl) (hb hby at_149) (fun _ _ => ⟨rfl, e92, (by decide : 1 + 0 ≤ _), (by decide : 18 + 0 ≤ _)⟩)
    dsimp only [Pt.U, Pt.locs, Pt.cells, Pt.slots] at X104 l104 y104 z104 st104 hQ104
    have X104 := own_to X104 l104 y104 z104
    obtain ⟨rfl, N104q, e104⟩ := hQ104
    have N104 := Fr.app N92 N104q
    obtain ⟨fs, hr, hrun, hended, hW, hsame⟩ := X104.leave (v := (some (.int (1 : Int32)))) (fun h => by rw [Bd.returns] at h; cases h)
    refine ⟨_, _, gp102 _ ?_, hrun, hended, _, _, rfl, ?_, ⟨_, rfl⟩, hW, hsame.mono (by decide) (by decide)⟩
    · refine XS.istoreN X92.here hx rfl (hb hby at_133) rfl (l' := #[.val (.int p0), .val (.ref b1), .val (.int (2 : Int32)), .unset]) rfl ?_
      show Steps p.tables e below (T92.setTop (mkF m 134 #[.val (.int p0), .val (.ref b1), .val (.int (2 : Int32)), .unset] [])) _
      refine XS.iloadN X92.here hx rfl (hb hby at_134) rfl ?_
      show Steps p.tables e below (T92.setTop (mkF m 135 #[.val (.int p0), .val (.ref b1), .val (.int (2 : Int32)), .unset] [(.int (2 : Int32))])) _
      refine XS.bipush X92.here hx rfl (hb hby at_135) ?_
      show Steps p.tables e below (T92.setTop (mkF m 137 #[.val (.int p0), .val (.ref b1), .val (.int (2 : Int32)), .unset] [(.int (8 : Int32)), (.int (2 : Int32))])) _
      refine XS.icmpNo X92.here hx rfl (hb hby at_137) rfl (tlt (by decide : (2 : Int32) < (8 : Int32))).2.1 ?_
      show Steps p.tables e below (T92.setTop (mkF m 140 #[.val (.int p0), .val (.ref b1), .val (.int (2 : Int32)), .unset] [])) _
      refine XS.iconst X92.here hx rfl (hb hby at_140) ?_
      show Steps p.tables e below (T92.setTop (mkF m 141 #[.val (.int p0), .val (.ref b1), .val (.int (2 : Int32)), .unset] [(.int (1 : Int32))])) _
      refine XS.goto X92.here hx rfl (pc0 := 141) (pc' := 145) rfl (hb hby at_141) (by decide) (by decide) ?_
      show Steps p.tables e below (T92.setTop (mkF m 145 #[.val (.int p0), .val (.ref b1), .val (.int (2 : Int32)), .unset] [(.int (1 : Int32))])) _
      refine XS.istoreN X92.here hx rfl (hb hby at_145) rfl (l' := #[.val (.int p0), .val (.ref b1), .val (.int (2 : Int32)), .val (.int (1 : Int32))]) rfl ?_
      show Steps p.tables e below (T92.setTop (mkF m 146 #[.val (.int p0), .val (.ref b1), .val (.int (2 : Int32)), .val (.int (1 : Int32))] [])) _
      refine XS.aloadN X92.here hx rfl (hb hby at_146) rfl rfl ?_
      show Steps p.tables e below (T92.setTop (mkF m 147 #[.val (.int p0), .val (.ref b1), .val (.int (2 : Int32)), .val (.int (1 : Int32))] [(.ref b1)])) _
      refine XS.iloadN X92.here hx rfl (hb hby at_147) rfl ?_
      show Steps p.tables e below (T92.setTop (mkF m 148 #[.val (.int p0), .val (.ref b1), .val (.int (2 : Int32)), .val (.int (1 : Int32))] [(.int (2 : Int32)), (.ref b1)])) _
      refine X92.aaload hx (j := (2 : Int32)) (v := (.ref a_GT)) (by rw [e92]; exact Ar103.1) (State.isArrayOf_alike hZ.alike Ar103.2.1) rfl Ar103.2.2 hin103 hat103 (g := (mkF m 148 #[.val (.int p0), .val (.ref b1), .val (.int (2 : Int32)), .val (.int (1 : Int32))] [(.int (2 : Int32)), (.ref b1)])) rfl rfl (hb hby at_148) _ ?_
      show Steps p.tables e below (T92.setTop (mkF m 149 #[.val (.int p0), .val (.ref b1), .val (.int (2 : Int32)), .val (.int (1 : Int32))] [(.ref a_GT)])) _
      refine st104.trans ?_
      show Steps p.tables e below (T104.setTop (mkF m 152 #[.val (.int p0), .val (.ref b1), .val (.int (2 : Int32)), .val (.int (1 : Int32))] [(.int (1 : Int32))])) _
      refine XS.iloadN X104.here hx rfl (hb hby at_152) rfl ?_
      show Steps p.tables e below (T104.setTop (mkF m 153 #[.val (.int p0), .val (.ref b1), .val (.int (2 : Int32)), .val (.int (1 : Int32))] [(.int (1 : Int32)), (.int (1 : Int32))])) _
      refine XS.icmpNo X104.here hx rfl (hb hby at_153) rfl (teq (by decide : (1 : Int32) = (1 : Int32))).2 ?_
      show Steps p.tables e below (T104.setTop (mkF m 156 #[.val (.int p0), .val (.ref b1), .val (.int (2 : Int32)), .val (.int (1 : Int32))] [])) _
      refine XS.iconst X104.here hx rfl (hb hby at_156) ?_
      show Steps p.tables e below (T104.setTop (mkF m 157 #[.val (.int p0), .val (.ref b1), .val (.int (2 : Int32)), .val (.int (1 : Int32))] [(.int (1 : Int32))])) _
      refine XS.goto X104.here hx rfl (pc0 := 157) (pc' := 161) rfl (hb hby at_157) (by decide) (by decide) ?_
      show Steps p.tables e below (T104.setTop (mkF m 161 #[.val (.int p0), .val (.ref b1), .val (.int (2 : Int32)), .val (.int (1 : Int32))] [(.int (1 : Int32))])) _
      exact retN X104 hx (t := .boolean) Bd.returns (by simp) (hb hby at_161) hr
    · show Q0 n0 _ T104.heap _
      rw [e104]
      exact ⟨rfl, N104⟩
  · have gp105 := gp95
    rw [hk] at gp105
    obtain ⟨c106, Ar106, q106, S106, M106, Hh106, G106⟩ := (id v93)
    have hin106 : ¬ ((3 : Int32) < 0 ∨ c106.slots.size ≤ ((3 : Int32)).toNatClampNeg) := inb_of S106 ⟨by decide, by decide⟩
    have hat106 : c106.slots[((3 : Int32)).toNatClampNeg]? = some (.ref a_GE) := Hh106.at hin106 rfl
    obtain ⟨cq107, kq107, q107a, q107b, q107c⟩ := isOf hZ e92 ((hS.2.2.2.2.2.2.1.ext O94.2))
    obtain ⟨_, _, ⟨T107, L107, k107, n107⟩, -, X107, ⟨Lc107, hQ107, l107, y107, z107⟩, st107⟩ := X92.virtualBack hx (y := (⟨"com/example/rows_by_rule/rowsbyrule/query/FieldOperator", "takesSubquery", "()Z"⟩ : MethodName)) (z := (⟨"com/example/rows_by_rule/rowsbyrule/query/FieldOperator", "takesSubquery", "()Z"⟩ : MethodName)) hown (mvT hZ (hw _ (List.mem_of_getElem? (i := 41) rfl))) (mvT hZ (hw _ (List.mem_of_getElem? (i := 42) rfl))) (notFace_of_selects (args := #[]) (mvT hZ (hw _ (List.mem_of_getElem? (i := 44) rfl)))) (mvT hZ (hw _ (List.mem_of_getElem? (i := 44) rfl))) (mvT hZ (hw _ (List.mem_of_getElem? (i := 43) rfl))) (by decide) (backOf (W := 0) (rm1 l Z a0 hw [] a_EQ a_NE a_GT a_GE a_LT a_LE a_IN a_NOT_IN a_NULL a_LIKE a_NOT_LIKE a_START a_NOT_START a_END a_NOT_END a_CONTAIN a_NOT_CONTAIN a_RX a_COMPARISON a_LIST a_PATTERN a_NULL_TEST hS a_GE a_COMPARISON (1 : Int32) h92 n0 O94 (hS.2.2.2.2.2.2.2.2.2.2.2.2.2.2.2.2.2.2.2.2.2.2.2.2.2.2.2.2.2.2.2.2.2.2.2.2.2.2.2.2.2.2.2.2.2.1.ext O94.2) ⟨fun q => absurd q (Fld.ne hS.2.2.2.2.2.2.2.2.2.2.2.2.2.2.2.2.2.2.2.2.2.2.2.2.2.2.2.2.2.2.2.2.2.2.2.2.2.2.2.2.2.1 hS.2.2.2.2.2.2.2.2.2.2.2.2.2.2.2.2.2.2.2.2.2.2.2.2.2.2.2.2.2.2.2.2.2.2.2.2.2.2.2.2.2.2.1 (fun q => absurd (Value.int.inj q) (by decide))), fun _ q => absurd rfl q, fun _ _ q => absurd q (Fld.ne hS.2.2.2.2.2.2.2.2.2.2.2.2.2.2.2.2.2.2.2.2.2.2.2.2.2.2.2.2.2.2.2.2.2.2.2.2.2.2.2.2.2.2.2.2.2.2.1 hS.2.2.2.2.2.2.2.2.2.2.2.2.2.2.2.2.2.2.2.2.2.2.2.2.2.2.2.2.2.2.2.2.2.2.2.2.2.2.2.2.2.2.2.2.1 (fun q => absurd (Value.int.inj q) (by decide))), fun _ _ _ => rfl⟩) hZ (hw _ (List.mem_of_getElem? (i := 45) rfl)) (hw _ (List.mem_of_getElem? (i := 3) rfl)) (by decide) (by decide)) q107a q107c (g := (mkF m 149 #[.val (.int p0), .val (.ref b1), .val (.int (3 : Int32)), .val (.int (1 : Int32))] [(.ref a_GE)])) rfl (by rw [hml]; rfl) (Steps.refl _) (argsL := []) (rest := []) (lenOf pd_0 rfl) rfl (by show 2 * 0 + _ ≤ _; exact Nat.le_of_eq rfl) (hb hby at_149) (fun _ _ => ⟨rfl, e92, (by decide : 1 + 0 ≤ _), (by decide : 18 + 0 ≤ _)⟩)
    dsimp only [Pt.U, Pt.locs, Pt.cells, Pt.slots] at X107 l107 y107 z107 st107 hQ107
    have X107 := own_to X107 l107 y107 z107
    obtain ⟨rfl, N107q, e107⟩ := hQ107
    have N107 := Fr.app N92 N107q
    obtain ⟨fs, hr, hrun, hended, hW, hsame⟩ := X107.leave (v := (some (.int (1 : Int32)))) (fun h => by rw [Bd.returns] at h; cases h)
    refine ⟨_, _, gp105 _ ?_, hrun, hended, _, _, rfl, ?_, ⟨_, rfl⟩, hW, hsame.mono (by decide) (by decide)⟩
    · refine XS.istoreN X92.here hx rfl (hb hby at_133) rfl (l' := #[.val (.int p0), .val (.ref b1), .val (.int (3 : Int32)), .unset]) rfl ?_
      show Steps p.tables e below (T92.setTop (mkF m 134 #[.val (.int p0), .val (.ref b1), .val (.int (3 : Int32)), .unset] [])) _
      refine XS.iloadN X92.here hx rfl (hb hby at_134) rfl ?_
      show Steps p.tables e below (T92.setTop (mkF m 135 #[.val (.int p0), .val (.ref b1), .val (.int (3 : Int32)), .unset] [(.int (3 : Int32))])) _
      refine XS.bipush X92.here hx rfl (hb hby at_135) ?_
      show Steps p.tables e below (T92.setTop (mkF m 137 #[.val (.int p0), .val (.ref b1), .val (.int (3 : Int32)), .unset] [(.int (8 : Int32)), (.int (3 : Int32))])) _
      refine XS.icmpNo X92.here hx rfl (hb hby at_137) rfl (tlt (by decide : (3 : Int32) < (8 : Int32))).2.1 ?_
      show Steps p.tables e below (T92.setTop (mkF m 140 #[.val (.int p0), .val (.ref b1), .val (.int (3 : Int32)), .unset] [])) _
      refine XS.iconst X92.here hx rfl (hb hby at_140) ?_
      show Steps p.tables e below (T92.setTop (mkF m 141 #[.val (.int p0), .val (.ref b1), .val (.int (3 : Int32)), .unset] [(.int (1 : Int32))])) _
      refine XS.goto X92.here hx rfl (pc0 := 141) (pc' := 145) rfl (hb hby at_141) (by decide) (by decide) ?_
      show Steps p.tables e below (T92.setTop (mkF m 145 #[.val (.int p0), .val (.ref b1), .val (.int (3 : Int32)), .unset] [(.int (1 : Int32))])) _
      refine XS.istoreN X92.here hx rfl (hb hby at_145) rfl (l' := #[.val (.int p0), .val (.ref b1), .val (.int (3 : Int32)), .val (.int (1 : Int32))]) rfl ?_
      show Steps p.tables e below (T92.setTop (mkF m 146 #[.val (.int p0), .val (.ref b1), .val (.int (3 : Int32)), .val (.int (1 : Int32))] [])) _
      refine XS.aloadN X92.here hx rfl (hb hby at_146) rfl rfl ?_
      show Steps p.tables e below (T92.setTop (mkF m 147 #[.val (.int p0), .val (.ref b1), .val (.int (3 : Int32)), .val (.int (1 : Int32))] [(.ref b1)])) _
      refine XS.iloadN X92.here hx rfl (hb hby at_147) rfl ?_
      show Steps p.tables e below (T92.setTop (mkF m 148 #[.val (.int p0), .val (.ref b1), .val (.int (3 : Int32)), .val (.int (1 : Int32))] [(.int (3 : Int32)), (.ref b1)])) _
      refine X92.aaload hx (j := (3 : Int32)) (v := (.ref a_GE)) (by rw [e92]; exact Ar106.1) (State.isArrayOf_alike hZ.alike Ar106.2.1) rfl Ar106.2.2 hin106 hat106 (g := (mkF m 148 #[.val (.int p0), .val (.ref b1), .val (.int (3 : Int32)), .val (.int (1 : Int32))] [(.int (3 : Int32)), (.ref b1)])) rfl rfl (hb hby at_148) _ ?_
      show Steps p.tables e below (T92.setTop (mkF m 149 #[.val (.int p0), .val (.ref b1), .val (.int (3 : Int32)), .val (.int (1 : Int32))] [(.ref a_GE)])) _
      refine st107.trans ?_
      show Steps p.tables e below (T107.setTop (mkF m 152 #[.val (.int p0), .val (.ref b1), .val (.int (3 : Int32)), .val (.int (1 : Int32))] [(.int (1 : Int32))])) _
      refine XS.iloadN X107.here hx rfl (hb hby at_152) rfl ?_
      show Steps p.tables e below (T107.setTop (mkF m 153 #[.val (.int p0), .val (.ref b1), .val (.int (3 : Int32)), .val (.int (1 : Int32))] [(.int (1 : Int32)), (.int (1 : Int32))])) _
      refine XS.icmpNo X107.here hx rfl (hb hby at_153) rfl (teq (by decide : (1 : Int32) = (1 : Int32))).2 ?_
      show Steps p.tables e below (T107.setTop (mkF m 156 #[.val (.int p0), .val (.ref b1), .val (.int (3 : Int32)), .val (.int (1 : Int32))] [])) _
      refine XS.iconst X107.here hx rfl (hb hby at_156) ?_
      show Steps p.tables e below (T107.setTop (mkF m 157 #[.val (.int p0), .val (.ref b1), .val (.int (3 : Int32)), .val (.int (1 : Int32))] [(.int (1 : Int32))])) _
      refine XS.goto X107.here hx rfl (pc0 := 157) (pc' := 161) rfl (hb hby at_157) (by decide) (by decide) ?_
      show Steps p.tables e below (T107.setTop (mkF m 161 #[.val (.int p0), .val (.ref b1), .val (.int (3 : Int32)), .val (.int (1 : Int32))] [(.int (1 : Int32))])) _
      exact retN X107 hx (t := .boolean) Bd.returns (by simp) (hb hby at_161) hr
    · show Q0 n0 _ T107.heap _
      rw [e107]
      exact ⟨rfl, N107⟩
  · have gp108 := gp95
    rw [hk] at gp108
    obtain ⟨c109, Ar109, q109, S109, M109, Hh109, G109⟩ := (id v93)
    have hin109 : ¬ ((4 : Int32) < 0 ∨ c109.slots.size ≤ ((4 : Int32)).toNatClampNeg) := inb_of S109 ⟨by decide, by decide⟩
    have hat109 : c109.slots[((4 : Int32)).toNatClampNeg]? = some (.ref a_LT) := Hh109.at hin109 rfl
    obtain ⟨cq110, kq110, q110a, q110b, q110c⟩ := isOf hZ e92 ((hS.2.2.2.2.2.2.2.2.1.ext O94.2))
    obtain ⟨_, _, ⟨T110, L110, k110, n110⟩, -, X110, ⟨Lc110, hQ110, l110, y110, z110⟩, st110⟩ := X92.virtualBack hx (y := (⟨"com/example/rows_by_rule/rowsbyrule/query/FieldOperator", "takesSubquery", "()Z"⟩ : MethodName)) (z := (⟨"com/example/rows_by_rule/rowsbyrule/query/FieldOperator", "takesSubquery", "()Z"⟩ : MethodName)) hown (mvT hZ (hw _ (List.mem_of_getElem? (i := 41) rfl))) (mvT hZ (hw _ (List.mem_of_getElem? (i := 42) rfl))) (notFace_of_selects (args := #[]) (mvT hZ (hw _ (List.mem_of_getElem? (i := 44) rfl)))) (mvT hZ (hw _ (List.mem_of_getElem? (i := 44) rfl))) (mvT hZ (hw _ (List.mem_of_getElem? (i := 43) rfl))) (by decide) (backOf (W := 0) (rm1 l Z a0 hw [] a_EQ a_NE a_GT a_GE a_LT a_LE a_IN a_NOT_IN a_NULL a_LIKE a_NOT_LIKE a_START a_NOT_START a_END a_NOT_END a_CONTAIN a_NOT_CONTAIN a_RX a_COMPARISON a_LIST a_PATTERN a_NULL_TEST hS a_LT a_COMPARISON (1 : Int32) h92 n0 O94 (hS.2.2.2.2.2.2.2.2.2.2.2.2.2.2.2.2.2.2.2.2.2.2.2.2.2.2.2.2.2.2.2.2.2.2.2.2.2.2.2.2.2.2.2.2.2.2.2.2.2.2.2.2.2.2.2.2.1.ext O94.2) ⟨fun q => absurd q (Fld.ne hS.2.2.2.2.2.2.2.2.2.2.2.2.2.2.2.2.2.2.2.2.2.2.2.2.2.2.2.2.2.2.2.2.2.2.2.2.2.2.2.2.2.1 hS.2.2.2.2.2.2.2.2.2.2.2.2.2.2.2.2.2.2.2.2.2.2.2.2.2.2.2.2.2.2.2.2.2.2.2.2.2.2.2.2.2.2.1 (fun q => absurd (Value.int.inj q) (by decide))), fun _ q => absurd rfl q, fun _ _ q => absurd q (Fld.ne hS.2.2.2.2.2.2.2.2.2.2.2.2.2.2.2.2.2.2.2.2.2.2.2.2.2.2.2.2.2.2.2.2.2.2.2.2.2.2.2.2.2.2.2.2.2.2.2.2.2.2.2.2.2.2.2.2.2.1 hS.2.2.2.2.2.2.2.2.2.2.2.2.2.2.2.2.2.2.2.2.2.2.2.2.2.2.2.2.2.2.2.2.2.2.2.2.2.2.2.2.2.2.2.2.1 (fun q => absurd (Value.int.inj q) (by decide))), fun _ _ _ => rfl⟩) hZ (hw _ (List.mem_of_getElem? (i := 45) rfl)) (hw _ (List.mem_of_getElem? (i := 3) rfl)) (by decide) (by decide)) q110a q110c (g := (mkF m 149 #[.val (.int p0), .val (.ref b1), .val (.int (4 : Int32)), .val (.int (1 : Int32))] [(.ref a_LT)])) rfl (by rw [hml]; rfl) (Steps.refl _) (argsL := []) (rest := []) (lenOf pd_0 rfl) rfl (by show 2 * 0 + _ ≤ _; exact Nat.le_of_eq rfl) (hb hby at_149) (fun _ _ => ⟨rfl, e92, (by decide : 1 + 0 ≤ _), (by decide : 18 + 0 ≤ _)⟩)
    dsimp only [Pt.U, Pt.locs, Pt.cells, Pt.slots] at X110 l110 y110 z110 st110 hQ110
    have X110 := own_to X110 l110 y110 z110
    obtain ⟨rfl, N110q, e110⟩ := hQ110
    have N110 := Fr.app N92 N110q
    obtain ⟨fs, hr, hrun, hended, hW, hsame⟩ := X110.leave (v := (some (.int (1 : Int32)))) (fun h => by rw [Bd.returns] at h; cases h)
    refine ⟨_, _, gp108 _ ?_, hrun, hended, _, _, rfl, ?_, ⟨_, rfl⟩, hW, hsame.mono (by decide) (by decide)⟩
    · refine XS.istoreN X92.here hx rfl (hb hby at_133) rfl (l' := #[.val (.int p0), .val (.ref b1), .val (.int (4 : Int32)), .unset]) rfl ?_
      show Steps p.tables e below (T92.setTop (mkF m 134 #[.val (.int p0), .val (.ref b1), .val (.int (4 : Int32)), .unset] [])) _
      refine XS.iloadN X92.here hx rfl (hb hby at_134) rfl ?_
      show Steps p.tables e below (T92.setTop (mkF m 135 #[.val (.int p0), .val (.ref b1), .val (.int (4 : Int32)), .unset] [(.int (4 : Int32))])) _
      refine XS.bipush X92.here hx rfl (hb hby at_135) ?_
      show Steps p.tables e below (T92.setTop (mkF m 137 #[.val (.int p0), .val (.ref b1), .val (.int (4 : Int32)), .unset] [(.int (8 : Int32)), (.int (4 : Int32))])) _
      refine XS.icmpNo X92.here hx rfl (hb hby at_137) rfl (tlt (by decide : (4 : Int32) < (8 : Int32))).2.1 ?_
      show Steps p.tables e below (T92.setTop (mkF m 140 #[.val (.int p0), .val (.ref b1), .val (.int (4 : Int32)), .unset] [])) _
      refine XS.iconst X92.here hx rfl (hb hby at_140) ?_
      show Steps p.tables e below (T92.setTop (mkF m 141 #[.val (.int p0), .val (.ref b1), .val (.int (4 : Int32)), .unset] [(.int (1 : Int32))])) _
      refine XS.goto X92.here hx rfl (pc0 := 141) (pc' := 145) rfl (hb hby at_141) (by decide) (by decide) ?_
      show Steps p.tables e below (T92.setTop (mkF m 145 #[.val (.int p0), .val (.ref b1), .val (.int (4 : Int32)), .unset] [(.int (1 : Int32))])) _
      refine XS.istoreN X92.here hx rfl (hb hby at_145) rfl (l' := #[.val (.int p0), .val (.ref b1), .val (.int (4 : Int32)), .val (.int (1 : Int32))]) rfl ?_
      show Steps p.tables e below (T92.setTop (mkF m 146 #[.val (.int p0), .val (.ref b1), .val (.int (4 : Int32)), .val (.int (1 : Int32))] [])) _
      refine XS.aloadN X92.here hx rfl (hb hby at_146) rfl rfl ?_
      show Steps p.tables e below (T92.setTop (mkF m 147 #[.val (.int p0), .val (.ref b1), .val (.int (4 : Int32)), .val (.int (1 : Int32))] [(.ref b1)])) _
      refine XS.iloadN X92.here hx rfl (hb hby at_147) rfl ?_
      show Steps p.tables e below (T92.setTop (mkF m 148 #[.val (.int p0), .val (.ref b1), .val (.int (4 : Int32)), .val (.int (1 : Int32))] [(.int (4 : Int32)), (.ref b1)])) _
      refine X92.aaload hx (j := (4 : Int32)) (v := (.ref a_LT)) (by rw [e92]; exact Ar109.1) (State.isArrayOf_alike hZ.alike Ar109.2.1) rfl Ar109.2.2 hin109 hat109 (g := (mkF m 148 #[.val (.int p0), .val (.ref b1), .val (.int (4 : Int32)), .val (.int (1 : Int32))] [(.int (4 : Int32)), (.ref b1)])) rfl rfl (hb hby at_148) _ ?_
      show Steps p.tables e below (T92.setTop (mkF m 149 #[.val (.int p0), .val (.ref b1), .val (.int (4 : Int32)), .val (.int (1 : Int32))] [(.ref a_LT)])) _
      refine st110.trans ?_
      show Steps p.tables e below (T110.setTop (mkF m 152 #[.val (.int p0), .val (.ref b1), .val (.int (4 : Int32)), .val (.int (1 : Int32))] [(.int (1 : Int32))])) _
      refine XS.iloadN X110.here hx rfl (hb hby at_152) rfl ?_
      show Steps p.tables e below (T110.setTop (mkF m 153 #[.val (.int p0), .val (.ref b1), .val (.int (4 : Int32)), .val (.int (1 : Int32))] [(.int (1 : Int32)), (.int (1 : Int32))])) _
      refine XS.icmpNo X110.here hx rfl (hb hby at_153) rfl (teq (by decide : (1 : Int32) = (1 : Int32))).2 ?_
      show Steps p.tables e below (T110.setTop (mkF m 156 #[.val (.int p0), .val (.ref b1), .val (.int (4 : Int32)), .val (.int (1 : Int32))] [])) _
      refine XS.iconst X110.here hx rfl (hb hby at_156) ?_
      show Steps p.tables e below (T110.setTop (mkF m 157 #[.val (.int p0), .val (.ref b1), .val (.int (4 : Int32)), .val (.int (1 : Int32))] [(.int (1 : Int32))])) _
      refine XS.goto X110.here hx rfl (pc0 := 157) (pc' := 161) rfl (hb hby at_157) (by decide) (by decide) ?_
      show Steps p.tables e below (T110.setTop (mkF m 161 #[.val (.int p0), .val (.ref b1), .val (.int (4 : Int32)), .val (.int (1 : Int32))] [(.int (1 : Int32))])) _
      exact retN X110 hx (t := .boolean) Bd.returns (by simp) (hb hby at_161) hr
    · show Q0 n0 _ T110.heap _
      rw [e110]
      exact ⟨rfl, N110⟩
  · have gp111 := gp95
    rw [hk] at gp111
    obtain ⟨c112, Ar112, q112, S112, M112, Hh112, G112⟩ := (id v93)
    have hin112 : ¬ ((5 : Int32) < 0 ∨ c112.slots.size ≤ ((5 : Int32)).toNatClampNeg) := inb_of S112 ⟨by decide, by decide⟩
    have hat112 : c112.slots[((5 : Int32)).toNatClampNeg]? = some (.ref a_LE) := Hh112.at hin112 rfl
    obtain ⟨cq113, kq113, q113a, q113b, q113c⟩ := isOf hZ e92 ((hS.2.2.2.2.2.2.2.2.2.2.1.ext O94.2))
    obtain ⟨_, _, ⟨T113, L113, k113, n113⟩, -, X113, ⟨Lc113, hQ113, l113, y113, z113⟩, st113⟩ := X92.virtualBack hx (y := (⟨"com/example/rows_by_rule/rowsbyrule/query/FieldOperator", "takesSubquery", "()Z"⟩ : MethodName)) (z := (⟨"com/example/rows_by_rule/rowsbyrule/query/FieldOperator", "takesSubquery", "()Z"⟩ : MethodName)) hown (mvT hZ (hw _ (List.mem_of_getElem? (i := 41) rfl))) (mvT hZ (hw _ (List.mem_of_getElem? (i := 42) rfl))) (notFace_of_selects (args := #[]) (mvT hZ (hw _ (List.mem_of_getElem? (i := 44) rfl)))) (mvT hZ (hw _ (List.mem_of_getElem? (i := 44) rfl))) (mvT hZ (hw _ (List.mem_of_getElem? (i := 43) rfl))) (by decide) (backOf (W := 0) (rm1 l Z a0 hw [] a_EQ a_NE a_GT a_GE a_LT a_LE a_IN a_NOT_IN a_NULL a_LIKE a_NOT_LIKE a_START a_NOT_START a_END a_NOT_END a_CONTAIN a_NOT_CONTAIN a_RX a_COMPARISON a_LIST a_PATTERN a_NULL_TEST hS a_LE a_COMPARISON (1 : Int32) h92 n0 O94 (hS.2.2.2.2.2.2.2.2.2.2.2.2.2.2.2.2.2.2.2.2.2.2.2.2.2.2.2.2.2.2.2.2.2.2.2.2.2.2.2.2.2.2.2.2.2.2.2.2.2.2.2.2.2.2.2.2.2.2.2.2.2.2.2.2.2.2.2.2.2.2.1.ext O94.2) ⟨fun q => absurd q (Fld.ne hS.2.2.2.2.2.2.2.2.2.2.2.2.2.2.2.2.2.2.2.2.2.2.2.2.2.2.2.2.2.2.2.2.2.2.2.2.2.2.2.2.2.1 hS.2.2.2.2.2.2.2.2.2.2.2.2.2.2.2.2.2.2.2.2.2.2.2.2.2.2.2.2.2.2.2.2.2.2.2.2.2.2.2.2.2.2.1 (fun q => absurd (Value.int.inj q) (by decide))), fun _ q => absurd rfl q, fun _ _ q => absurd q (Fld.ne hS.2.2.2.2.2.2.2.2.2.2.2.2.2.2.2.2.2.2.2.2.2.2.2.2.2.2.2.2.2.2.2.2.2.2.2.2.2.2.2.2.2.2.2.2.2.2.2.2.2.2.2.2.2.2.2.2.2.2.2.2.2.2.2.2.2.2.2.2.2.2.2.1 hS.2.2.2.2.2.2.2.2.2.2.2.2.2.2.2.2.2.2.2.2.2.2.2.2.2.2.2.2.2.2.2.2.2.2.2.2.2.2.2.2.2.2.2.2.1 (fun q => absurd (Value.int.inj q) (by decide))), fun _ _ _ => rfl⟩) hZ (hw _ (List.mem_of_getElem? (i := 45) rfl)) (hw _ (List.mem_of_getElem? (i := 3) rfl)) (by decide) (by decide)) q113a q113c (g := (mkF m 149 #[.val (.int p0), .val (.ref b1), .val (.int (5 : Int32)), .val (.int (1 : Int32))] [(.ref a_LE)])) rfl (by rw [hml]; rfl) (Steps.refl _) (argsL := []) (rest := []) (lenOf pd_0 rfl) rfl (by show 2 * 0 + _ ≤ _; exact Nat.le_of_eq rfl) (hb hby at_149) (fun _ _ => ⟨rfl, e92, (by decide : 1 + 0 ≤ _), (by decide : 18 + 0 ≤ _)⟩)
    dsimp only [Pt.U, Pt.locs, Pt.cells, Pt.slots] at X113 l113 y113 z113 st113 hQ113
    have X113 := own_to X113 l113 y113 z113
    obtain ⟨rfl, N113q, e113⟩ := hQ113
    have N113 := Fr.app N92 N113q
    obtain ⟨fs, hr, hrun, hended, hW, hsame⟩ := X113.leave (v := (some (.int (1 : Int32)))) (fun h => by rw [Bd.returns] at h; cases h)
    refine ⟨_, _, gp111 _ ?_, hrun, hended, _, _, rfl, ?_, ⟨_, rfl⟩, hW, hsame.mono (by decide) (by decide)⟩
    · refine XS.istoreN X92.here hx rfl (hb hby at_133) rfl (l' := #[.val (.int p0), .val (.ref b1), .val (.int (5 : Int32)), .unset]) rfl ?_
      show Steps p.tables e below (T92.setTop (mkF m 134 #[.val (.int p0), .val (.ref b1), .val (.int (5 : Int32)), .unset] [])) _
      refine XS.iloadN X92.here hx rfl (hb hby at_134) rfl ?_
      show Steps p.tables e below (T92.setTop (mkF m 135 #[.val (.int p0), .val (.ref b1), .val (.int (5 : Int32)), .unset] [(.int (5 : Int32))])) _
      refine XS.bipush X92.here hx rfl (hb hby at_135) ?_
      show Steps p.tables e below (T92.setTop (mkF m 137 #[.val (.int p0), .val (.ref b1), .val (.int (5 : Int32)), .unset] [(.int (8 : Int32)), (.int (5 : Int32))])) _
      refine XS.icmpNo X92.here hx rfl (hb hby at_137) rfl (tlt (by decide : (5 : Int32) < (8 : Int32))).2.1 ?_
      show Steps p.tables e below (T92.setTop (mkF m 140 #[.val (.int p0), .val (.ref b1), .val (.int (5 : Int32)), .unset] [])) _
      refine XS.iconst X92.here hx rfl (hb hby at_140) ?_
      show Steps p.tables e below (T92.setTop (mkF m 141 #[.val (.int p0), .val (.ref b1), .val (.int (5 : Int32)), .unset] [(.int (1 : Int32))])) _
      refine XS.goto X92.here hx rfl (pc0 := 141) (pc' := 145) rfl (hb hby at_141) (by decide) (by decide) ?_
      show Steps p.tables e below (T92.setTop (mkF m 145 #[.val (.int p0), .val (.ref b1), .val (.int (5 : Int32)), .unset] [(.int (1 : Int32))])) _
      refine XS.istoreN X92.here hx rfl (hb hby at_145) rfl (l' := #[.val (.int p0), .val (.ref b1), .val (.int (5 : Int32)), .val (.int (1 : Int32))]) rfl ?_
      show Steps p.tables e below (T92.setTop (mkF m 146 #[.val (.int p0), .val (.ref b1), .val (.int (5 : Int32)), .val (.int (1 : Int32))] [])) _
      refine XS.aloadN X92.here hx rfl (hb hby at_146) rfl rfl ?_
      show Steps p.tables e below (T92.setTop (mkF m 147 #[.val (.int p0), .val (.ref b1), .val (.int (5 : Int32)), .val (.int (1 : Int32))] [(.ref b1)])) _
      refine XS.iloadN X92.here hx rfl (hb hby at_147) rfl ?_
      show Steps p.tables e below (T92.setTop (mkF m 148 #[.val (.int p0), .val (.ref b1), .val (.int (5 : Int32)), .val (.int (1 : Int32))] [(.int (5 : Int32)), (.ref b1)])) _
      refine X92.aaload hx (j := (5 : Int32)) (v := (.ref a_LE)) (by rw [e92]; exact Ar112.1) (State.isArrayOf_alike hZ.alike Ar112.2.1) rfl Ar112.2.2 hin112 hat112 (g := (mkF m 148 #[.val (.int p0), .val (.ref b1), .val (.int (5 : Int32)), .val (.int (1 : Int32))] [(.int (5 : Int32)), (.ref b1)])) rfl rfl (hb hby at_148) _ ?_
      show Steps p.tables e below (T92.setTop (mkF m 149 #[.val (.int p0), .val (.ref b1), .val (.int (5 : Int32)), .val (.int (1 : Int32))] [(.ref a_LE)])) _
      refine st113.trans ?_
      show Steps p.tables e below (T113.setTop (mkF m 152 #[.val (.int p0), .val (.ref b1), .val (.int (5 : Int32)), .val (.int (1 : Int32))] [(.int (1 : Int32))])) _
      refine XS.iloadN X113.here hx rfl (hb hby at_152) rfl ?_
      show Steps p.tables e below (T113.setTop (mkF m 153 #[.val (.int p0), .val (.ref b1), .val (.int (5 : Int32)), .val (.int (1 : Int32))] [(.int (1 : Int32)), (.int (1 : Int32))])) _
      refine XS.icmpNo X113.here hx rfl (hb hby at_153) rfl (teq (by decide : (1 : Int32) = (1 : Int32))).2 ?_
      show Steps p.tables e below (T113.setTop (mkF m 156 #[.val (.int p0), .val (.ref b1), .val (.int (5 : Int32)), .val (.int (1 : Int32))] [])) _
      refine XS.iconst X113.here hx rfl (hb hby at_156) ?_
      show Steps p.tables e below (T113.setTop (mkF m 157 #[.val (.int p0), .val (.ref b1), .val (.int (5 : Int32)), .val (.int (1 : Int32))] [(.int (1 : Int32))])) _
      refine XS.goto X113.here hx rfl (pc0 := 157) (pc' := 161) rfl (hb hby at_157) (by decide) (by decide) ?_
      show Steps p.tables e below (T113.setTop (mkF m 161 #[.val (.int p0), .val (.ref b1), .val (.int (5 : Int32)), .val (.int (1 : Int32))] [(.int (1 : Int32))])) _
      exact retN X113 hx (t := .boolean) Bd.returns (by simp) (hb hby at_161) hr
    · show Q0 n0 _ T113.heap _
      rw [e113]
      exact ⟨rfl, N113⟩
  · have gp114 := gp95
    rw [hk] at gp114
    obtain ⟨c115, Ar115, q115, S115, M115, Hh115, G115⟩ := (id v93)
    have hin115 : ¬ ((6 : Int32) < 0 ∨ c115.slots.size ≤ ((6 : Int32)).toNatClampNeg) := inb_of S115 ⟨by decide, by decide⟩
    have hat115 : c115.slots[((6 : Int32)).toNatClampNeg]? = some (.ref a_IN) := Hh115.at hin115 rfl
    obtain ⟨cq116, kq116, q116a, q116b, q116c⟩ := isOf hZ e92 ((hS.2.2.2.2.2.2.2.2.2.2.2.2.1.ext O94.2))
    obtain ⟨_, _, ⟨T116, L116, k116, n116⟩, -, X116, ⟨Lc116, hQ116, l116, y116, z116⟩, st116⟩ := X92.virtualBack hx (y := (⟨"com/example/rows_by_rule/rowsbyrule/query/FieldOperator", "takesSubquery", "()Z"⟩ : MethodName)) (z := (⟨"com/example/rows_by_rule/rowsbyrule/query/FieldOperator", "takesSubquery", "()Z"⟩ : MethodName)) hown (mvT hZ (hw _ (List.mem_of_getElem? (i := 41) rfl))) (mvT hZ (hw _ (List.mem_of_getElem? (i := 42) rfl))) (notFace_of_selects (args := #[]) (mvT hZ (hw _ (List.mem_of_getElem? (i := 44) rfl)))) (mvT hZ (hw _ (List.mem_of_getElem? (i := 44) rfl))) (mvT hZ (hw _ (List.mem_of_getElem? (i := 43) rfl))) (by decide) (backOf (W := 0) (rm1 l Z a0 hw [] a_EQ a_NE a_GT a_GE a_LT a_LE a_IN a_NOT_IN a_NULL a_LIKE a_NOT_LIKE a_START a_NOT_START a_END a_NOT_END a_CONTAIN a_NOT_CONTAIN a_RX a_COMPARISON a_LIST a_PATTERN a_NULL_TEST hS a_IN a_LIST (1 : Int32) h92 n0 O94 (hS.2.2.2.2.2.2.2.2.2.2.2.2.2.2.2.2.2.2.2.2.2.2.2.2.2.2.2.2.2.2.2.2.2.2.2.2.2.2.2.2.2.2.2.2.2.2.2.2.2.2.2.2.2.2.2.2.2.2.2.2.2.2.2.2.2.2.2.1.ext O94.2) ⟨fun _ => rfl, fun q => absurd rfl q, fun q => absurd rfl q, fun q => absurd rfl q⟩) hZ (hw _ (List.mem_of_getElem? (i := 45) rfl)) (hw _ (List.mem_of_getElem? (i := 3) rfl)) (by decide) (by decide)) q116a q116c (g := (mkF m 149 #[.val (.int p0), .val (.ref b1), .val (.int (6 : Int32)), .val (.int (1 : Int32))] [(.ref a_IN)])) rfl (by rw [hml]; rfl) (Steps.refl _) (argsL := []) (rest := []) (lenOf pd_0 rfl) rfl (by show 2 * 0 + _ ≤ _; exact Nat.le_of_eq rfl) (hb hby at_149) (fun _ _ => ⟨rfl, e92, (by decide : 1 + 0 ≤ _), (by decide : 18 + 0 ≤ _)⟩)
    dsimp only [Pt.U, Pt.locs, Pt.cells, Pt.slots] at X116 l116 y116 z116 st116 hQ116
    have X116 := own_to X116 l116 y116 z116
    obtain ⟨rfl, N116q, e116⟩ := hQ116
    have N116 := Fr.app N92 N116q
    obtain ⟨fs, hr, hrun, hended, hW, hsame⟩ := X116.leave (v := (some (.int (1 : Int32)))) (fun h => by rw [Bd.returns] at h; cases h)
    refine ⟨_, _, gp114 _ ?_, hrun, hended, _, _, rfl, ?_, ⟨_, rfl⟩, hW, hsame.mono (by decide) (by decide)⟩
    · refine XS.istoreN X92.here hx rfl (hb hby at_133) rfl (l' := #[.val (.int p0), .val (.ref b1), .val (.int (6 : Int32)), .unset]) rfl ?_
      show Steps p.tables e below (T92.setTop (mkF m 134 #[.val (.int p0), .val (.ref b1), .val (.int (6 : Int32)), .unset] [])) _
      refine XS.iloadN X92.here hx rfl (hb hby at_134) rfl ?_
      show Steps p.tables e below (T92.setTop (mkF m 135 #[.val (.int p0), .val (.ref b1), .val (.int (6 : Int32)), .unset] [(.int (6 : Int32))])) _
      refine XS.bipush X92.here hx rfl (hb hby at_135) ?_
      show Steps p.tables e below (T92.setTop (mkF m 137 #[.val (.int p0), .val (.ref b1), .val (.int (6 : Int32)), .unset] [(.int (8 : Int32)), (.int (6 : Int32))])) _
      refine XS.icmpNo X92.here hx rfl (hb hby at_137) rfl (tlt (by decide : (6 : Int32) < (8 : Int32))).2.1 ?_
      show Steps p.tables e below (T92.setTop (mkF m 140 #[.val (.int p0), .val (.ref b1), .val (.int (6 : Int32)), .unset] [])) _
      refine XS.iconst X92.here hx rfl (hb hby at_140) ?_
      show Steps p.tables e below (T92.setTop (mkF m 141 #[.val (.int p0), .val (.ref b1), .val (.int (6 : Int32)), .unset] [(.int (1 : Int32))])) _
      refine XS.goto X92.here hx rfl (pc0 := 141) (pc' := 145) rfl (hb hby at_141) (by decide) (by decide) ?_
      show Steps p.tables e below (T92.setTop (mkF m 145 #[.val (.int p0), .val (.ref b1), .val (.int (6 : Int32)), .unset] [(.int (1 : Int32))])) _
      refine XS.istoreN X92.here hx rfl (hb hby at_145) rfl (l' := #[.val (.int p0), .val (.ref b1), .val (.int (6 : Int32)), .val (.int (1 : Int32))]) rfl ?_
      show Steps p.tables e below (T92.setTop (mkF m 146 #[.val (.int p0), .val (.ref b1), .val (.int (6 : Int32)), .val (.int (1 : Int32))] [])) _
      refine XS.aloadN X92.here hx rfl (hb hby at_146) rfl rfl ?_
      show Steps p.tables e below (T92.setTop (mkF m 147 #[.val (.int p0), .val (.ref b1), .val (.int (6 : Int32)), .val (.int (1 : Int32))] [(.ref b1)])) _
      refine XS.iloadN X92.here hx rfl (hb hby at_147) rfl ?_
      show Steps p.tables e below (T92.setTop (mkF m 148 #[.val (.int p0), .val (.ref b1), .val (.int (6 : Int32)), .val (.int (1 : Int32))] [(.int (6 : Int32)), (.ref b1)])) _
      refine X92.aaload hx (j := (6 : Int32)) (v := (.ref a_IN)) (by rw [e92]; exact Ar115.1) (State.isArrayOf_alike hZ.alike Ar115.2.1) rfl Ar115.2.2 hin115 hat115 (g := (mkF m 148 #[.val (.int p0), .val (.ref b1), .val (.int (6 : Int32)), .val (.int (1 : Int32))] [(.int (6 : Int32)), (.ref b1)])) rfl rfl (hb hby at_148) _ ?_
      show Steps p.tables e below (T92.setTop (mkF m 149 #[.val (.int p0), .val (.ref b1), .val (.int (6 : Int32)), .val (.int (1 : Int32))] [(.ref a_IN)])) _
      refine st116.trans ?_
      show Steps p.tables e below (T116.setTop (mkF m 152 #[.val (.int p0), .val (.ref b1), .val (.int (6 : Int32)), .val (.int (1 : Int32))] [(.int (1 : Int32))])) _
      refine XS.iloadN X116.here hx rfl (hb hby at_152) rfl ?_
      show Steps p.tables e below (T116.setTop (mkF m 153 #[.val (.int p0), .val (.ref b1), .val (.int (6 : Int32)), .val (.int (1 : Int32))] [(.int (1 : Int32)), (.int (1 : Int32))])) _
      refine XS.icmpNo X116.here hx rfl (hb hby at_153) rfl (teq (by decide : (1 : Int32) = (1 : Int32))).2 ?_
      show Steps p.tables e below (T116.setTop (mkF m 156 #[.val (.int p0), .val (.ref b1), .val (.int (6 : Int32)), .val (.int (1 : Int32))] [])) _
      refine XS.iconst X116.here hx rfl (hb hby at_156) ?_
      show Steps p.tables e below (T116.setTop (mkF m 157 #[.val (.int p0), .val (.ref b1), .val (.int (6 : Int32)), .val (.int (1 : Int32))] [(.int (1 : Int32))])) _
      refine XS.goto X116.here hx rfl (pc0 := 157) (pc' := 161) rfl (hb hby at_157) (by decide) (by decide) ?_
      show Steps p.tables e below (T116.setTop (mkF m 161 #[.val (.int p0), .val (.ref b1), .val (.int (6 : Int32)), .val (.int (1 : Int32))] [(.int (1 : Int32))])) _
      exact retN X116 hx (t := .boolean) Bd.returns (by simp) (hb hby at_161) hr
    · show Q0 n0 _ T116.heap _
      rw [e116]
      exact ⟨rfl, N116⟩
  · have gp117 := gp95
    rw [hk] at gp117
    obtain ⟨c118, Ar118, q118, S118, M118, Hh118, G118⟩ := (id v93)
    have hin118 : ¬ ((7 : Int32) < 0 ∨ c118.slots.size ≤ ((7 : Int32)).toNatClampNeg) := inb_of S118 ⟨by decide, by decide⟩
    have hat118 : c118.slots[((7 : Int32)).toNatClampNeg]? = some (.ref a_NOT_IN) := Hh118.at hin118 rfl
    obtain ⟨cq119, kq119, q119a, q119b, q119c⟩ := isOf hZ e92 ((hS.2.2.2.2.2.2.2.2.2.2.2.2.2.2.1.ext O94.2))
    obtain ⟨_, _, ⟨T119, L119, k119, n119⟩, -, X119, ⟨Lc119, hQ119, l119, y119, z119⟩, st119⟩ := X92.virtualBack hx (y := (⟨"com/example/rows_by_rule/rowsbyrule/query/FieldOperator", "takesSubquery", "()Z"⟩ : MethodName)) (z := (⟨"com/example/rows_by_rule/rowsbyrule/query/FieldOperator", "takesSubquery", "()Z"⟩ : MethodName)) hown (mvT hZ (hw _ (List.mem_of_getElem? (i := 41) rfl))) (mvT hZ (hw _ (List.mem_of_getElem? (i := 42) rfl))) (notFace_of_selects (args := #[]) (mvT hZ (hw _ (List.mem_of_getElem? (i := 44) rfl)))) (mvT hZ (hw _ (List.mem_of_getElem? (i := 44) rfl))) (mvT hZ (hw _ (List.mem_of_getElem? (i := 43) rfl))) (by decide) (backOf (W := 0) (rm1 l Z a0 hw [] a_EQ a_NE a_GT a_GE a_LT a_LE a_IN a_NOT_IN a_NULL a_LIKE a_NOT_LIKE a_START a_NOT_START a_END a_NOT_END a_CONTAIN a_NOT_CONTAIN a_RX a_COMPARISON a_LIST a_PATTERN a_NULL_TEST hS a_NOT_IN a_LIST (1 : Int32) h92 n0 O94 (hS.2.2.2.2.2.2.2.2.2.2.2.2.2.2.2.2.2.2.2.2.2.2.2.2.2.2.2.2.2.2.2.2.2.2.2.2.2.2.2.2.2.2.2.2.2.2.2.2.2.2.2.1.ext O94.2) ⟨fun _ => rfl, fun q => absurd rfl q, fun q => absurd rfl q, fun q => absurd rfl q⟩) hZ (hw _ (List.mem_of_getElem? (i := 45) rfl)) (hw _ (List.mem_of_getElem? (i := 3) rfl)) (by decide) (by decide)) q119a q119c (g := (mkF m 149 #[.val (.int p0), .val (.ref b1), .val (.int (7 : Int32)), .val (.int (1 : Int32))] [(.ref a_NOT_IN)])) rfl (by rw [hml]; rfl) (Steps.refl _) (argsL := []) (rest := []) (lenOf pd_0 rfl) rfl (by show 2 * 0 + _ ≤ _; exact Nat.le_of_eq rfl) (hb hby at_149) (fun _ _ => ⟨rfl, e92, (by decide : 1 + 0 ≤ _), (by decide : 18 + 0 ≤ _)⟩)
    dsimp only [Pt.U, Pt.locs, Pt.cells, Pt.slots] at X119 l119 y119 z119 st119 hQ119
    have X119 := own_to X119 l119 y119 z119
    obtain ⟨rfl, N119q, e119⟩ := hQ119
    have N119 := Fr.app N92 N119q
    obtain ⟨fs, hr, hrun, hended, hW, hsame⟩ := X119.leave (v := (some (.int (1 : Int32)))) (fun h => by rw [Bd.returns] at h; cases h)
    refine ⟨_, _, gp117 _ ?_, hrun, hended, _, _, rfl, ?_, ⟨_, rfl⟩, hW, hsame.mono (by decide) (by decide)⟩
    · refine XS.istoreN X92.here hx rfl (hb hby at_133) rfl (l' := #[.val (.int p0), .val (.ref b1), .val (.int (7 : Int32)), .unset]) rfl ?_
      show Steps p.tables e below (T92.setTop (mkF m 134 #[.val (.int p0), .val (.ref b1), .val (.int (7 : Int32)), .unset] [])) _
      refine XS.iloadN X92.here hx rfl (hb hby at_134) rfl ?_
      show Steps p.tables e below (T92.setTop (mkF m 135 #[.val (.int p0), .val (.ref b1), .val (.int (7 : Int32)), .unset] [(.int (7 : Int32))])) _
      refine XS.bipush X92.here hx rfl (hb hby at_135) ?_
      show Steps p.tables e below (T92.setTop (mkF m 137 #[.val (.int p0), .val (.ref b1), .val (.int (7 : Int32)), .unset] [(.int (8 : Int32)), (.int (7 : Int32))])) _
      refine XS.icmpNo X92.here hx rfl (hb hby at_137) rfl (tlt (by decide : (7 : Int32) < (8 : Int32))).2.1 ?_
      show Steps p.tables e below (T92.setTop (mkF m 140 #[.val (.int p0), .val (.ref b1), .val (.int (7 : Int32)), .unset] [])) _
      refine XS.iconst X92.here hx rfl (hb hby at_140) ?_
      show Steps p.tables e below (T92.setTop (mkF m 141 #[.val (.int p0), .val (.ref b1), .val (.int (7 : Int32)), .unset] [(.int (1 : Int32))])) _
      refine XS.goto X92.here hx rfl (pc0 := 141) (pc' := 145) rfl (hb hby at_141) (by decide) (by decide) ?_
      show Steps p.tables e below (T92.setTop (mkF m 145 #[.val (.int p0), .val (.ref b1), .val (.int (7 : Int32)), .unset] [(.int (1 : Int32))])) _
      refine XS.istoreN X92.here hx rfl (hb hby at_145) rfl (l' := #[.val (.int p0), .val (.ref b1), .val (.int (7 : Int32)), .val (.int (1 : Int32))]) rfl ?_
      show Steps p.tables e below (T92.setTop (mkF m 146 #[.val (.int p0), .val (.ref b1), .val (.int (7 : Int32)), .val (.int (1 : Int32))] [])) _
      refine XS.aloadN X92.here hx rfl (hb hby at_146) rfl rfl ?_
      show Steps p.tables e below (T92.setTop (mkF m 147 #[.val (.int p0), .val (.ref b1), .val (.int (7 : Int32)), .val (.int (1 : Int32))] [(.ref b1)])) _
      refine XS.iloadN X92.here hx rfl (hb hby at_147) rfl ?_
      show Steps p.tables e below (T92.setTop (mkF m 148 #[.val (.int p0), .val (.ref b1), .val (.int (7 : Int32)), .val (.int (1 : Int32))] [(.int (7 : Int32)), (.ref b1)])) _
      refine X92.aaload hx (j := (7 : Int32)) (v := (.ref a_NOT_IN)) (by rw [e92]; exact Ar118.1) (State.isArrayOf_alike hZ.alike Ar118.2.1) rfl Ar118.2.2 hin118 hat118 (g := (mkF m 148 #[.val (.int p0), .val (.ref b1), .val (.int (7 : Int32)), .val (.int (1 : Int32))] [(.int (7 : Int32)), (.ref b1)])) rfl rfl (hb hby at_148) _ ?_
      show Steps p.tables e below (T92.setTop (mkF m 149 #[.val (.int p0), .val (.ref b1), .val (.int (7 : Int32)), .val (.int (1 : Int32))] [(.ref a_NOT_IN)])) _
      refine st119.trans ?_
      show Steps p.tables e below (T119.setTop (mkF m 152 #[.val (.int p0), .val (.ref b1), .val (.int (7 : Int32)), .val (.int (1 : Int32))] [(.int (1 : Int32))])) _
      refine XS.iloadN X119.here hx rfl (hb hby at_152) rfl ?_
      show Steps p.tables e below (T119.setTop (mkF m 153 #[.val (.int p0), .val (.ref b1), .val (.int (7 : Int32)), .val (.int (1 : Int32))] [(.int (1 : Int32)), (.int (1 : Int32))])) _
      refine XS.icmpNo X119.here hx rfl (hb hby at_153) rfl (teq (by decide : (1 : Int32) = (1 : Int32))).2 ?_
      show Steps p.tables e below (T119.setTop (mkF m 156 #[.val (.int p0), .val (.ref b1), .val (.int (7 : Int32)), .val (.int (1 : Int32))] [])) _
      refine XS.iconst X119.here hx rfl (hb hby at_156) ?_
      show Steps p.tables e below (T119.setTop (mkF m 157 #[.val (.int p0), .val (.ref b1), .val (.int (7 : Int32)), .val (.int (1 : Int32))] [(.int (1 : Int32))])) _
      refine XS.goto X119.here hx rfl (pc0 := 157) (pc' := 161) rfl (hb hby at_157) (by decide) (by decide) ?_
      show Steps p.tables e below (T119.setTop (mkF m 161 #[.val (.int p0), .val (.ref b1), .val (.int (7 : Int32)), .val (.int (1 : Int32))] [(.int (1 : Int32))])) _
      exact retN X119 hx (t := .boolean) Bd.returns (by simp) (hb hby at_161) hr
    · show Q0 n0 _ T119.heap _
      rw [e119]
      exact ⟨rfl, N119⟩
  · have gp120 := gp95
    rw [hk] at gp120
    obtain ⟨c121, Ar121, q121, S121, M121, Hh121, G121⟩ := (id v93)
    have hin121 : ¬ ((8 : Int32) < 0 ∨ c121.slots.size ≤ ((8 : Int32)).toNatClampNeg) := inb_of S121 ⟨by decide, by decide⟩
    have hat121 : c121.slots[((8 : Int32)).toNatClampNeg]? = some (.ref a_NULL) := Hh121.at hin121 rfl
    obtain ⟨cq122, kq122, q122a, q122b, q122c⟩ := isOf hZ e92 ((hS.2.2.2.2.2.2.2.2.2.2.2.2.2.2.2.2.1.ext O94.2))
    obtain ⟨_, _, ⟨T122, L122, k122, n122⟩, -, X122, ⟨Lc122, hQ122, l122, y122, z122⟩, st122⟩ := X92.virtualBack hx (y := (⟨"com/example/rows_by_rule/rowsbyrule/query/FieldOperator", "takesSubquery", "()Z"⟩ : MethodName)) (z := (⟨"com/example/rows_by_rule/rowsbyrule/query/FieldOperator", "takesSubquery", "()Z"⟩ : MethodName)) hown (mvT hZ (hw _ (List.mem_of_getElem? (i := 41) rfl))) (mvT hZ (hw _ (List.mem_of_getElem? (i := 42) rfl))) (notFace_of_selects (args := #[]) (mvT hZ (hw _ (List.mem_of_getElem? (i := 44) rfl)))) (mvT hZ (hw _ (List.mem_of_getElem? (i := 44) rfl))) (mvT hZ (hw _ (List.mem_of_getElem? (i := 43) rfl))) (by decide) (backOf (W := 0) (rm1 l Z a0 hw [] a_EQ a_NE a_GT a_GE a_LT a_LE a_IN a_NOT_IN a_NULL a_LIKE a_NOT_LIKE a_START a_NOT_START a_END a_NOT_END a_CONTAIN a_NOT_CONTAIN a_RX a_COMPARISON a_LIST a_PATTERN a_NULL_TEST hS a_NULL a_NULL_TEST (0 : Int32) h92 n0 O94 (hS.2.2.2.2.2.2.2.2.2.2.2.2.2.2.2.2.2.2.2.2.2.2.2.2.2.2.2.2.2.2.2.2.2.2.2.2.2.2.2.2.2.2.2.2.2.2.2.2.2.2.2.2.2.2.2.2.2.2.2.2.1.ext O94.2) ⟨fun q => absurd q (Fld.ne hS.2.2.2.2.2.2.2.2.2.2.2.2.2.2.2.2.2.2.2.2.2.2.2.2.2.2.2.2.2.2.2.2.2.2.2.2.2.2.2.2.2.2.2.2.2.2.2.2.2.2.2.2.2.2.2.2.2.2.2.2.2.1 hS.2.2.2.2.2.2.2.2.2.2.2.2.2.2.2.2.2.2.2.2.2.2.2.2.2.2.2.2.2.2.2.2.2.2.2.2.2.2.2.2.2.2.1 (fun q => absurd (Value.int.inj q) (by decide))), fun _ _ => rfl, fun _ q => absurd q (Fld.ne hS.2.2.2.2.2.2.2.2.2.2.2.2.2.2.2.2.2.2.2.2.2.2.2.2.2.2.2.2.2.2.2.2.2.2.2.2.2.2.2.2.2.2.2.2.2.2.2.2.2.2.2.2.2.2.2.2.2.2.2.2.2.1 hS.2.2.2.2.2.2.2.2.2.2.2.2.2.2.2.2.2.2.2.2.2.2.2.2.2.2.2.2.2.2.2.2.2.2.2.2.2.2.2.2.2.1 (fun q => absurd (Value.int.inj q) (by decide))), fun _ q => absurd q (Fld.ne hS.2.2.2.2.2.2.2.2.2.2.2.2.2.2.2.2.2.2.2.2.2.2.2.2.2.2.2.2.2.2.2.2.2.2.2.2.2.2.2.2.2.2.2.2.2.2.2.2.2.2.2.2.2.2.2.2.2.2.2.2.2.1 hS.2.2.2.2.2.2.2.2.2.2.2.2.2.2.2.2.2.2.2.2.2.2.2.2.2.2.2.2.2.2.2.2.2.2.2.2.2.2.2.2.2.1 (fun q => absurd (Value.int.inj q) (by decide)))⟩) hZ (hw _ (List.mem_of_getElem? (i := 45) rfl)) (hw _ (List.mem_of_getElem? (i := 3) rfl)) (by decide) (by decide)) q122a q122c (g := (mkF m 149 #[.val (.int p0), .val (.ref b1), .val (.int (8 : Int32)), .val (.int (0 : Int32))] [(.ref a_NULL)])) rfl (by rw [hml]; rfl) (Steps.refl _) (argsL := []) (rest := []) (lenOf pd_0 rfl) rfl (by show 2 * 0 + _ ≤ _; exact Nat.le_of_eq rfl) (hb hby at_149) (fun _ _ => ⟨rfl, e92, (by decide : 1 + 0 ≤ _), (by decide : 18 + 0 ≤ _)⟩)
    dsimp only [Pt.U, Pt.locs, Pt.cells, Pt.slots] at X122 l122 y122 z122 st122 hQ122
    have X122 := own_to X122 l122 y122 z122
    obtain ⟨rfl, N122q, e122⟩ := hQ122
    have N122 := Fr.app N92 N122q
    obtain ⟨fs, hr, hrun, hended, hW, hsame⟩ := X122.leave (v := (some (.int (1 : Int32)))) (fun h => by rw [Bd.returns] at h; cases h)
    refine ⟨_, _, gp120 _ ?_, hrun, hended, _, _, rfl, ?_, ⟨_, rfl⟩, hW, hsame.mono (by decide) (by decide)⟩
    · refine XS.istoreN X92.here hx rfl (hb hby at_133) rfl (l' := #[.val (.int p0), .val (.ref b1), .val (.int (8 : Int32)), .unset]) rfl ?_
      show Steps p.tables e below (T92.setTop (mkF m 134 #[.val (.int p0), .val (.ref b1), .val (.int (8 : Int32)), .unset] [])) _
      refine XS.iloadN X92.here hx rfl (hb hby at_134) rfl ?_
      show Steps p.tables e below (T92.setTop (mkF m 135 #[.val (.int p0), .val (.ref b1), .val (.int (8 : Int32)), .unset] [(.int (8 : Int32))])) _
      refine XS.bipush X92.here hx rfl (hb hby at_135) ?_
      show Steps p.tables e below (T92.setTop (mkF m 137 #[.val (.int p0), .val (.ref b1), .val (.int (8 : Int32)), .unset] [(.int (8 : Int32)), (.int (8 : Int32))])) _
      refine XS.icmpYes X92.here hx rfl (pc0 := 137) (pc' := 144) rfl (hb hby at_137) rfl (flt (by decide : ¬ ((8 : Int32) < (8 : Int32)))).2.1 (by decide) (by decide) ?_
      show Steps p.tables e below (T92.setTop (mkF m 144 #[.val (.int p0), .val (.ref b1), .val (.int (8 : Int32)), .unset] [])) _
      refine XS.iconst X92.here hx rfl (hb hby at_144) ?_
      show Steps p.tables e below (T92.setTop (mkF m 145 #[.val (.int p0), .val (.ref b1), .val (.int (8 : Int32)), .unset] [(.int (0 : Int32))])) _
      refine XS.istoreN X92.here hx rfl (hb hby at_145) rfl (l' := #[.val (.int p0), .val (.ref b1), .val (.int (8 : Int32)), .val (.int (0 : Int32))]) rfl ?_
      show Steps p.tables e below (T92.setTop (mkF m 146 #[.val (.int p0), .val (.ref b1), .val (.int (8 : Int32)), .val (.int (0 : Int32))] [])) _
      refine XS.aloadN X92.here hx rfl (hb hby at_146) rfl rfl ?_
      show Steps p.tables e below (T92.setTop (mkF m 147 #[.val (.int p0), .val (.ref b1), .val (.int (8 : Int32)), .val (.int (0 : Int32))] [(.ref b1)])) _
      refine XS.iloadN X92.here hx rfl (hb hby at_147) rfl ?_
      show Steps p.tables e below (T92.setTop (mkF m 148 #[.val (.int p0), .val (.ref b1), .val (.int (8 : Int32)), .val (.int (0 : Int32))] [(.int (8 : Int32)), (.ref b1)])) _
      refine X92.aaload hx (j := (8 : Int32)) (v := (.ref a_NULL)) (by rw [e92]; exact Ar121.1) (State.isArrayOf_alike hZ.alike Ar121.2.1) rfl Ar121.2.2 hin121 hat121 (g := (mkF m 148 #[.val (.int p0), .val (.ref b1), .val (.int (8 : Int32)), .val (.int (0 : Int32))] [(.int (8 : Int32)), (.ref b1)])) rfl rfl (hb hby at_148) _ ?_
      show Steps p.tables e below (T92.setTop (mkF m 149 #[.val (.int p0), .val (.ref b1), .val (.int (8 : Int32)), .val (.int (0 : Int32))] [(.ref a_NULL)])) _
      refine st122.trans ?_
      show Steps p.tables e below (T122.setTop (mkF m 152 #[.val (.int p0), .val (.ref b1), .val (.int (8 : Int32)), .val (.int (0 : Int32))] [(.int (0 : Int32))])) _
      refine XS.iloadN X122.here hx rfl (hb hby at_152) rfl ?_
      show Steps p.tables e below (T122.setTop (mkF m 153 #[.val (.int p0), .val (.ref b1), .val (.int (8 : Int32)), .val (.int (0 : Int32))] [(.int (0 : Int32)), (.int (0 : Int32))])) _
      refine XS.icmpNo X122.here hx rfl (hb hby at_153) rfl (teq (by decide : (0 : Int32) = (0 : Int32))).2 ?_
      show Steps p.tables e below (T122.setTop (mkF m 156 #[.val (.int p0), .val (.ref b1), .val (.int (8 : Int32)), .val (.int (0 : Int32))] [])) _
      refine XS.iconst X122.here hx rfl (hb hby at_156) ?_
      show Steps p.tables e below (T122.setTop (mkF m 157 #[.val (.int p0), .val (.ref b1), .val (.int (8 : Int32)), .val (.int (0 : Int32))] [(.int (1 : Int32))])) _
      refine XS.goto X122.here hx rfl (pc0 := 157) (pc' := 161) rfl (hb hby at_157) (by decide) (by decide) ?_
      show Steps p.tables e below (T122.setTop (mkF m 161 #[.val (.int p0), .val (.ref b1), .val (.int (8 : Int32)), .val (.int (0 : Int32))] [(.int (1 : Int32))])) _
      exact retN X122 hx (t := .boolean) Bd.returns (by simp) (hb hby at_161) hr
    · show Q0 n0 _ T122.heap _
      rw [e122]
      exact ⟨rfl, N122⟩
  · have gp123 := gp95
    rw [hk] at gp123
    obtain ⟨c124, Ar124, q124, S124, M124, Hh124, G124⟩ := (id v93)
    have hin124 : ¬ ((9 : Int32) < 0 ∨ c124.slots.size ≤ ((9 : Int32)).toNatClampNeg) := inb_of S124 ⟨by decide, by decide⟩
    have hat124 : c124.slots[((9 : Int32)).toNatClampNeg]? = some (.ref a_LIKE) := Hh124.at hin124 rfl
    obtain ⟨cq125, kq125, q125a, q125b, q125c⟩ := isOf hZ e92 ((hS.2.2.2.2.2.2.2.2.2.2.2.2.2.2.2.2.2.2.1.ext O94.2))
    obtain ⟨_, _, ⟨T125, L125, k125, n125⟩, -, X125, ⟨Lc125, hQ125, l125, y125, z125⟩, st125⟩ := X92.virtualBack hx (y := (⟨"com/example/rows_by_rule/rowsbyrule/query/FieldOperator", "takesSubquery", "()Z"⟩ : MethodName)) (z := (⟨"com/example/rows_by_rule/rowsbyrule/query/FieldOperator", "takesSubquery", "()Z"⟩ : MethodName)) hown (mvT hZ (hw _ (List.mem_of_getElem? (i := 41) rfl))) (mvT hZ (hw _ (List.mem_of_getElem? (i := 42) rfl))) (notFace_of_selects (args := #[]) (mvT hZ (hw _ (List.mem_of_getElem? (i := 44) rfl)))) (mvT hZ (hw _ (List.mem_of_getElem? (i := 44) rfl))) (mvT hZ (hw _ (List.mem_of_getElem? (i := 43) rfl))) (by decide) (backOf (W := 0) (rm1 l Z a0 hw [] a_EQ a_NE a_GT a_GE a_LT a_LE a_IN a_NOT_IN a_NULL a_LIKE a_NOT_LIKE a_START a_NOT_START a_END a_NOT_END a_CONTAIN a_NOT_CONTAIN a_RX a_COMPARISON a_LIST a_PATTERN a_NULL_TEST hS a_LIKE a_PATTERN (0 : Int32) h92 n0 O94 (hS.2.2.2.2.2.2.2.2.2.2.2.2.2.2.2.2.2.2.2.2.2.2.2.2.2.2.2.2.2.2.2.2.2.2.2.2.2.2.2.2.2.2.2.2.2.2.2.2.2.2.2.2.2.2.2.2.2.2.2.2.2.2.2.2.2.2.2.2.2.2.2.2.ext O94.2) ⟨fun q => absurd q (Fld.ne hS.2.2.2.2.2.2.2.2.2.2.2.2.2.2.2.2.2.2.2.2.2.2.2.2.2.2.2.2.2.2.2.2.2.2.2.2.2.2.2.2.2.2.2.2.2.2.2.2.2.2.2.2.2.2.2.1 hS.2.2.2.2.2.2.2.2.2.2.2.2.2.2.2.2.2.2.2.2.2.2.2.2.2.2.2.2.2.2.2.2.2.2.2.2.2.2.2.2.2.2.1 (fun q => absurd (Value.int.inj q) (by decide))), fun _ _ => rfl, fun _ q => absurd q (Fld.ne hS.2.2.2.2.2.2.2.2.2.2.2.2.2.2.2.2.2.2.2.2.2.2.2.2.2.2.2.2.2.2.2.2.2.2.2.2.2.2.2.2.2.2.2.2.2.2.2.2.2.2.2.2.2.2.2.1 hS.2.2.2.2.2.2.2.2.2.2.2.2.2.2.2.2.2.2.2.2.2.2.2.2.2.2.2.2.2.2.2.2.2.2.2.2.2.2.2.2.2.1 (fun q => absurd (Value.int.inj q) (by decide))), fun _ q => absurd q (Fld.ne hS.2.2.2.2.2.2.2.2.2.2.2.2.2.2.2.2.2.2.2.2.2.2.2.2.2.2.2.2.2.2.2.2.2.2.2.2.2.2.2.2.2.2.2.2.2.2.2.2.2.2.2.2.2.2.2.1 hS.2.2.2.2.2.2.2.2.2.2.2.2.2.2.2.2.2.2.2.2.2.2.2.2.2.2.2.2.2.2.2.2.2.2.2.2.2.2.2.2.2.1 (fun q => absurd (Value.int.inj q) (by decide)))⟩) hZ (hw _ (List.mem_of_getElem? (i := 45) rfl)) (hw _ (List.mem_of_getElem? (i := 3) rfl)) (by decide) (by decide)) q125a q125c (g := (mkF m 149 #[.val (.int p0), .val (.ref b1), .val (.int (9 : Int32)), .val (.int (0 : Int32))] [(.ref a_LIKE)])) rfl (by rw [hml]; rfl) (Steps.refl _) (argsL := []) (rest := []) (lenOf pd_0 rfl) rfl (by show 2 * 0 + _ ≤ _; exact Nat.le_of_eq rfl) (hb hby at_149) (fun _ _ => ⟨rfl, e92, (by decide : 1 + 0 ≤ _), (by decide : 18 + 0 ≤ _)⟩)
    dsimp only [Pt.U, Pt.locs, Pt.cells, Pt.slots] at X125 l125 y125 z125 st125 hQ125
    have X125 := own_to X125 l125 y125 z125
    obtain ⟨rfl, N125q, e125⟩ := hQ125
    have N125 := Fr.app N92 N125q
    obtain ⟨fs, hr, hrun, hended, hW, hsame⟩ := X125.leave (v := (some (.int (1 : Int32)))) (fun h => by rw [Bd.returns] at h; cases h)
    refine ⟨_, _, gp123 _ ?_, hrun, hended, _, _, rfl, ?_, ⟨_, rfl⟩, hW, hsame.mono (by decide) (by decide)⟩
    · refine XS.istoreN X92.here hx rfl (hb hby at_133) rfl (l' := #[.val (.int p0), .val (.ref b1), .val (.int (9 : Int32)), .unset]) rfl ?_
      show Steps p.tables e below (T92.setTop (mkF m 134 #[.val (.int p0), .val (.ref b1), .val (.int (9 : Int32)), .unset] [])) _
      refine XS.iloadN X92.here hx rfl (hb hby at_134) rfl ?_
      show Steps p.tables e below (T92.setTop (mkF m 135 #[.val (.int p0), .val (.ref b1), .val (.int (9 : Int32)), .unset] [(.int (9 : Int32))])) _
      refine XS.bipush X92.here hx rfl (hb hby at_135) ?_
      show Steps p.tables e below (T92.setTop (mkF m 137 #[.val (.int p0), .val (.ref b1), .val (.int (9 : Int32)), .unset] [(.int (8 : Int32)), (.int (9 : Int32))])) _
      refine XS.icmpYes X92.here hx rfl (pc0 := 137) (pc' := 144) rfl (hb hby at_137) rfl (flt (by decide : ¬ ((9 : Int32) < (8 : Int32)))).2.1 (by decide) (by decide) ?_
      show Steps p.tables e below (T92.setTop (mkF m 144 #[.val (.int p0), .val (.ref b1), .val (.int (9 : Int32)), .unset] [])) _
      refine XS.iconst X92.here hx rfl (hb hby at_144) ?_
      show Steps p.tables e below (T92.setTop (mkF m 145 #[.val (.int p0), .val (.ref b1), .val (.int (9 : Int32)), .unset] [(.int (0 : Int32))])) _
      refine XS.istoreN X92.here hx rfl (hb hby at_145) rfl (l' := #[.val (.int p0), .val (.ref b1), .val (.int (9 : Int32)), .val (.int (0 : Int32))]) rfl ?_
      show Steps p.tables e below (T92.setTop (mkF m 146 #[.val (.int p0), .val (.ref b1), .val (.int (9 : Int32)), .val (.int (0 : Int32))] [])) _
      refine XS.aloadN X92.here hx rfl (hb hby at_146) rfl rfl ?_
      show Steps p.tables e below (T92.setTop (mkF m 147 #[.val (.int p0), .val (.ref b1), .val (.int (9 : Int32)), .val (.int (0 : Int32))] [(.ref b1)])) _
      refine XS.iloadN X92.here hx rfl (hb hby at_147) rfl ?_
      show Steps p.tables e below (T92.setTop (mkF m 148 #[.val (.int p0), .val (.ref b1), .val (.int (9 : Int32)), .val (.int (0 : Int32))] [(.int (9 : Int32)), (.ref b1)])) _
      refine X92.aaload hx (j := (9 : Int32)) (v := (.ref a_LIKE)) (by rw [e92]; exact Ar124.1) (State.isArrayOf_alike hZ.alike Ar124.2.1) rfl Ar124.2.2 hin124 hat124 (g := (mkF m 148 #[.val (.int p0), .val (.ref b1), .val (.int (9 : Int32)), .val (.int (0 : Int32))] [(.int (9 : Int32)), (.ref b1)])) rfl rfl (hb hby at_148) _ ?_
      show Steps p.tables e below (T92.setTop (mkF m 149 #[.val (.int p0), .val (.ref b1), .val (.int (9 : Int32)), .val (.int (0 : Int32))] [(.ref a_LIKE)])) _
      refine st125.trans ?_
      show Steps p.tables e below (T125.setTop (mkF m 152 #[.val (.int p0), .val (.ref b1), .val (.int (9 : Int32)), .val (.int (0 : Int32))] [(.int (0 : Int32))])) _
      refine XS.iloadN X125.here hx rfl (hb hby at_152) rfl ?_
      show Steps p.tables e below (T125.setTop (mkF m 153 #[.val (.int p0), .val (.ref b1), .val (.int (9 : Int32)), .val (.int (0 : Int32))] [(.int (0 : Int32)), (.int (0 : Int32))])) _
      refine XS.icmpNo X125.here hx rfl (hb hby at_153) rfl (teq (by decide : (0 : Int32) = (0 : Int32))).2 ?_
      show Steps p.tables e below (T125.setTop (mkF m 156 #[.val (.int p0), .val (.ref b1), .val (.int (9 : Int32)), .val (.int (0 : Int32))] [])) _
      refine XS.iconst X125.here hx rfl (hb hby at_156) ?_
      show Steps p.tables e below (T125.setTop (mkF m 157 #[.val (.int p0), .val (.ref b1), .val (.int (9 : Int32)), .val (.int (0 : Int32))] [(.int (1 : Int32))])) _
      refine XS.goto X125.here hx rfl (pc0 := 157) (pc' := 161) rfl (hb hby at_157) (by decide) (by decide) ?_
      show Steps p.tables e below (T125.setTop (mkF m 161 #[.val (.int p0), .val (.ref b1), .val (.int (9 : Int32)), .val (.int (0 : Int32))] [(.int (1 : Int32))])) _
      exact retN X125 hx (t := .boolean) Bd.returns (by simp) (hb hby at_161) hr
    · show Q0 n0 _ T125.heap _
      rw [e125]
      exact ⟨rfl, N125⟩
  · have gp126 := gp95
    rw [hk] at gp126
    obtain ⟨c127, Ar127, q127, S127, M127, Hh127, G127⟩ := (id v93)
    have hin127 : ¬ ((10 : Int32) < 0 ∨ c127.slots.size ≤ ((10 : Int32)).toNatClampNeg) := inb_of S127 ⟨by decide, by decide⟩
    have hat127 : c127.slots[((10 : Int32)).toNatClampNeg]? = some (.ref a_NOT_LIKE) := Hh127.at hin127 rfl
    obtain ⟨cq128, kq128, q128a, q128b, q128c⟩ := isOf hZ e92 ((hS.2.2.2.2.2.2.2.2.2.2.2.2.2.2.2.2.2.2.2.2.1.ext O94.2))
    obtain ⟨_, _, ⟨T128, L128, k128, n128⟩, -, X128, ⟨Lc128, hQ128, l128, y128, z128⟩, st128⟩ := X92.virtualBack hx (y := (⟨"com/example/rows_by_rule/rowsbyrule/query/FieldOperator", "takesSubquery", "()Z"⟩ : MethodName)) (z := (⟨"com/example/rows_by_rule/rowsbyrule/query/FieldOperator", "takesSubquery", "()Z"⟩ : MethodName)) hown (mvT hZ (hw _ (List.mem_of_getElem? (i := 41) rfl))) (mvT hZ (hw _ (List.mem_of_getElem? (i := 42) rfl))) (notFace_of_selects (args := #[]) (mvT hZ (hw _ (List.mem_of_getElem? (i := 44) rfl)))) (mvT hZ (hw _ (List.mem_of_getElem? (i := 44) rfl))) (mvT hZ (hw _ (List.mem_of_getElem? (i := 43) rfl))) (by decide) (backOf (W := 0) (rm1 l Z a0 hw [] a_EQ a_NE a_GT a_GE a_LT a_LE a_IN a_NOT_IN a_NULL a_LIKE a_NOT_LIKE a_START a_NOT_START a_END a_NOT_END a_CONTAIN a_NOT_CONTAIN a_RX a_COMPARISON a_LIST a_PATTERN a_NULL_TEST hS a_NOT_LIKE a_PATTERN (0 : Int32) h92 n0 O94 (hS.2.2.2.2.2.2.2.2.2.2.2.2.2.2.2.2.2.2.2.2.2.2.2.2.2.2.2.2.2.2.2.2.2.2.2.2.2.2.2.2.2.2.2.2.2.2.2.2.2.2.2.2.2.2.2.2.2.2.2.2.2.2.2.2.2.1.ext O94.2) ⟨fun q => absurd q (Fld.ne hS.2.2.2.2.2.2.2.2.2.2.2.2.2.2.2.2.2.2.2.2.2.2.2.2.2.2.2.2.2.2.2.2.2.2.2.2.2.2.2.2.2.2.2.2.2.2.2.2.2.2.2.2.2.2.2.1 hS.2.2.2.2.2.2.2.2.2.2.2.2.2.2.2.2.2.2.2.2.2.2.2.2.2.2.2.2.2.2.2.2.2.2.2.2.2.2.2.2.2.2.1 (fun q => absurd (Value.int.inj q) (by decide))), fun _ _ => rfl, fun _ q => absurd q (Fld.ne hS.2.2.2.2.2.2.2.2.2.2.2.2.2.2.2.2.2.2.2.2.2.2.2.2.2.2.2.2.2.2.2.2.2.2.2.2.2.2.2.2.2.2.2.2.2.2.2.2.2.2.2.2.2.2.2.1 hS.2.2.2.2.2.2.2.2.2.2.2.2.2.2.2.2.2.2.2.2.2.2.2.2.2.2.2.2.2.2.2.2.2.2.2.2.2.2.2.2.2.1 (fun q => absurd (Value.int.inj q) (by decide))), fun _ q => absurd q (Fld.ne hS.2.2.2.2.2.2.2.2.2.2.2.2.2.2.2.2.2.2.2.2.2.2.2.2.2.2.2.2.2.2.2.2.2.2.2.2.2.2.2.2.2.2.2.2.2.2.2.2.2.2.2.2.2.2.2.1 hS.2.2.2.2.2.2.2.2.2.2.2.2.2.2.2.2.2.2.2.2.2.2.2.2.2.2.2.2.2.2.2.2.2.2.2.2.2.2.2.2.2.1 (fun q => absurd (Value.int.inj q) (by decide)))⟩) hZ (hw _ (List.mem_of_getElem? (i := 45) rfl)) (hw _ (List.mem_of_getElem? (i := 3) rfl)) (by decide) (by decide)) q128a q128c (g := (mkF m 149 #[.val (.int p0), .val (.ref b1), .val (.int (10 : Int32)), .val (.int (0 : Int32))] [(.ref a_NOT_LIKE)])) rfl (by rw [hml]; rfl) (Steps.refl _) (argsL := []) (rest := []) (lenOf pd_0 rfl) rfl (by show 2 * 0 + _ ≤ _; exact Nat.le_of_eq rfl) (hb hby at_149) (fun _ _ => ⟨rfl, e92, (by decide : 1 + 0 ≤ _), (by decide : 18 + 0 ≤ _)⟩)
    dsimp only [Pt.U, Pt.locs, Pt.cells, Pt.slots] at X128 l128 y128 z128 st128 hQ128
    have X128 := own_to X128 l128 y128 z128
    obtain ⟨rfl, N128q, e128⟩ := hQ128
    have N128 := Fr.app N92 N128q
    obtain ⟨fs, hr, hrun, hended, hW, hsame⟩ := X128.leave (v := (some (.int (1 : Int32)))) (fun h => by rw [Bd.returns] at h; cases h)
    refine ⟨_, _, gp126 _ ?_, hrun, hended, _, _, rfl, ?_, ⟨_, rfl⟩, hW, hsame.mono (by decide) (by decide)⟩
    · refine XS.istoreN X92.here hx rfl (hb hby at_133) rfl (l' := #[.val (.int p0), .val (.ref b1), .val (.int (10 : Int32)), .unset]) rfl ?_
      show Steps p.tables e below (T92.setTop (mkF m 134 #[.val (.int p0), .val (.ref b1), .val (.int (10 : Int32)), .unset] [])) _
      refine XS.iloadN X92.here hx rfl (hb hby at_134) rfl ?_
      show Steps p.tables e below (T92.setTop (mkF m 135 #[.val (.int p0), .val (.ref b1), .val (.int (10 : Int32)), .unset] [(.int (10 : Int32))])) _
      refine XS.bipush X92.here hx rfl (hb hby at_135) ?_
      show Steps p.tables e below (T92.setTop (mkF m 137 #[.val (.int p0), .val (.ref b1), .val (.int (10 : Int32)), .unset] [(.int (8 : Int32)), (.int (10 : Int32))])) _
      refine XS.icmpYes X92.here hx rfl (pc0 := 137) (pc' := 144) rfl (hb hby at_137) rfl (flt (by decide : ¬ ((10 : Int32) < (8 : Int32)))).2.1 (by decide) (by decide) ?_
      show Steps p.tables e below (T92.setTop (mkF m 144 #[.val (.int p0), .val (.ref b1), .val (.int (10 : Int32)), .unset] [])) _
      refine XS.iconst X92.here hx rfl (hb hby at_144) ?_
      show Steps p.tables e below (T92.setTop (mkF m 145 #[.val (.int p0), .val (.ref b1), .val (.int (10 : Int32)), .unset] [(.int (0 : Int32))])) _
      refine XS.istoreN X92.here hx rfl (hb hby at_145) rfl (l' := #[.val (.int p0), .val (.ref b1), .val (.int (10 : Int32)), .val (.int (0 : Int32))]) rfl ?_
      show Steps p.tables e below (T92.setTop (mkF m 146 #[.val (.int p0), .val (.ref b1), .val (.int (10 : Int32)), .val (.int (0 : Int32))] [])) _
      refine XS.aloadN X92.here hx rfl (hb hby at_146) rfl rfl ?_
      show Steps p.tables e below (T92.setTop (mkF m 147 #[.val (.int p0), .val (.ref b1), .val (.int (10 : Int32)), .val (.int (0 : Int32))] [(.ref b1)])) _
      refine XS.iloadN X92.here hx rfl (hb hby at_147) rfl ?_
      show Steps p.tables e below (T92.setTop (mkF m 148 #[.val (.int p0), .val (.ref b1), .val (.int (10 : Int32)), .val (.int (0 : Int32))] [(.int (10 : Int32)), (.ref b1)])) _
      refine X92.aaload hx (j := (10 : Int32)) (v := (.ref a_NOT_LIKE)) (by rw [e92]; exact Ar127.1) (State.isArrayOf_alike hZ.alike Ar127.2.1) rfl Ar127.2.2 hin127 hat127 (g := (mkF m 148 #[.val (.int p0), .val (.ref b1), .val (.int (10 : Int32)), .val (.int (0 : Int32))] [(.int (10 : Int32)), (.ref b1)])) rfl rfl (hb hby at_148) _ ?_
      show Steps p.tables e below (T92.setTop (mkF m 149 #[.val (.int p0), .val (.ref b1), .val (.int (10 : Int32)), .val (.int (0 : Int32))] [(.ref a_NOT_LIKE)])) _
      refine st128.trans ?_
      show Steps p.tables e below (T128.setTop (mkF m 152 #[.val (.int p0), .val (.ref b1), .val (.int (10 : Int32)), .val (.int (0 : Int32))] [(.int (0 : Int32))])) _
      refine XS.iloadN X128.here hx rfl (hb hby at_152) rfl ?_
      show Steps p.tables e below (T128.setTop (mkF m 153 #[.val (.int p0), .val (.ref b1), .val (.int (10 : Int32)), .val (.int (0 : Int32))] [(.int (0 : Int32)), (.int (0 : Int32))])) _
      refine XS.icmpNo X128.here hx rfl (hb hby at_153) rfl (teq (by decide : (0 : Int32) = (0 : Int32))).2 ?_
      show Steps p.tables e below (T128.setTop (mkF m 156 #[.val (.int p0), .val (.ref b1), .val (.int (10 : Int32)), .val (.int (0 : Int32))] [])) _
      refine XS.iconst X128.here hx rfl (hb hby at_156) ?_
      show Steps p.tables e below (T128.setTop (mkF m 157 #[.val (.int p0), .val (.ref b1), .val (.int (10 : Int32)), .val (.int (0 : Int32))] [(.int (1 : Int32))])) _
      refine XS.goto X128.here hx rfl (pc0 := 157) (pc' := 161) rfl (hb hby at_157) (by decide) (by decide) ?_
      show Steps p.tables e below (T128.setTop (mkF m 161 #[.val (.int p0), .val (.ref b1), .val (.int (10 : Int32)), .val (.int (0 : Int32))] [(.int (1 : Int32))])) _
      exact retN X128 hx (t := .boolean) Bd.returns (by simp) (hb hby at_161) hr
    · show Q0 n0 _ T128.heap _
      rw [e128]
      exact ⟨rfl, N128⟩
  · have gp129 := gp95
    rw [hk] at gp129
    obtain ⟨c130, Ar130, q130, S130, M130, Hh130, G130⟩ := (id v93)
    have hin130 : ¬ ((11 : Int32) < 0 ∨ c130.slots.size ≤ ((11 : Int32)).toNatClampNeg) := inb_of S130 ⟨by decide, by decide⟩
    have hat130 : c130.slots[((11 : Int32)).toNatClampNeg]? = some (.ref a_START) := Hh130.at hin130 rfl
    obtain ⟨cq131, kq131, q131a, q131b, q131c⟩ := isOf hZ e92 ((hS.2.2.2.2.2.2.2.2.2.2.2.2.2.2.2.2.2.2.2.2.2.2.1.ext O94.2))
    obtain ⟨_, _, ⟨T131, L131, k131, n131⟩, -, X131, ⟨Lc131, hQ131, l131, y131, z131⟩, st131⟩ := X92.virtualBack hx (y := (⟨"com/example/rows_by_rule/rowsbyrule/query/FieldOperator", "takesSubquery", "()Z"⟩ : MethodName)) (z := (⟨"com/example/rows_by_rule/rowsbyrule/query/FieldOperator", "takesSubquery", "()Z"⟩ : MethodName)) hown (mvT hZ (hw _ (List.mem_of_getElem? (i := 41) rfl))) (mvT hZ (hw _ (List.mem_of_getElem? (i := 42) rfl))) (notFace_of_selects (args := #[]) (mvT hZ (hw _ (List.mem_of_getElem? (i := 44) rfl)))) (mvT hZ (hw _ (List.mem_of_getElem? (i := 44) rfl))) (mvT hZ (hw _ (List.mem_of_getElem? (i := 43) rfl))) (by decide) (backOf (W := 0) (rm1 l Z a0 hw [] a_EQ a_NE a_GT a_GE a_LT a_LE a_IN a_NOT_IN a_NULL a_LIKE a_NOT_LIKE a_START a_NOT_START a_END a_NOT_END a_CONTAIN a_NOT_CONTAIN a_RX a_COMPARISON a_LIST a_PATTERN a_NULL_TEST hS a_START a_PATTERN (0 : Int32) h92 n0 O94 (hS.2.2.2.2.2.2.2.2.2.2.2.2.2.2.2.2.2.2.2.2.2.2.2.2.2.2.2.2.2.2.2.2.2.2.2.2.2.2.2.2.2.2.2.2.2.2.2.2.2.2.2.2.2.2.1.ext O94.2) ⟨fun q => absurd q (Fld.ne hS.2.2.2.2.2.2.2.2.2.2.2.2.2.2.2.2.2.2.2.2.2.2.2.2.2.2.2.2.2.2.2.2.2.2.2.2.2.2.2.2.2.2.2.2.2.2.2.2.2.2.2.2.2.2.2.1 hS.2.2.2.2.2.2.2.2.2.2.2.2.2.2.2.2.2.2.2.2.2.2.2.2.2.2.2.2.2.2.2.2.2.2.2.2.2.2.2.2.2.2.1 (fun q => absurd (Value.int.inj q) (by decide))), fun _ _ => rfl, fun _ q => absurd q (Fld.ne hS.2.2.2.2.2.2.2.2.2.2.2.2.2.2.2.2.2.2.2.2.2.2.2.2.2.2.2.2.2.2.2.2.2.2.2.2.2.2.2.2.2.2.2.2.2.2.2.2.2.2.2.2.2.2.2.1 hS.2.2.2.2.2.2.2.2.2.2.2.2.2.2.2.2.2.2.2.2.2.2.2.2.2.2.2.2.2.2.2.2.2.2.2.2.2.2.2.2.2.1 (fun q => absurd (Value.int.inj q) (by decide))), fun _ q => absurd q (Fld.ne hS.2.2.2.2.2.2.2.2.2.2.2.2.2.2.2.2.2.2.2.2.2.2.2.2.2.2.2.2.2.2.2.2.2.2.2.2.2.2.2.2.2.2.2.2.2.2.2.2.2.2.2.2.2.2.2.1 hS.2.2.2.2.2.2.2.2.2.2.2.2.2.2.2.2.2.2.2.2.2.2.2.2.2.2.2.2.2.2.2.2.2.2.2.2.2.2.2.2.2.1 (fun q => absurd (Value.int.inj q) (by decide)))⟩) hZ (hw _ (List.mem_of_getElem? (i := 45) rfl)) (hw _ (List.mem_of_getElem? (i := 3) rfl)) (by decide) (by decide)) q131a q131c (g := (mkF m 149 #[.val (.int p0), .val (.ref b1), .val (.int (11 : Int32)), .val (.int (0 : Int32))] [(.ref a_START)])) rfl (by rw [hml]; rfl) (Steps.refl _) (argsL := []) (rest := []) (lenOf pd_0 rfl) rfl (by show 2 * 0 + _ ≤ _; exact Nat.le_of_eq rfl) (hb hby at_149) (fun _ _ => ⟨rfl, e92, (by decide : 1 + 0 ≤ _), (by decide : 18 + 0 ≤ _)⟩)
    dsimp only [Pt.U, Pt.locs, Pt.cells, Pt.slots] at X131 l131 y131 z131 st131 hQ131
    have X131 := own_to X131 l131 y131 z131
    obtain ⟨rfl, N131q, e131⟩ := hQ131
    have N131 := Fr.app N92 N131q
    obtain ⟨fs, hr, hrun, hended, hW, hsame⟩ := X131.leave (v := (some (.int (1 : Int32)))) (fun h => by rw [Bd.returns] at h; cases h)
    refine ⟨_, _, gp129 _ ?_, hrun, hended, _, _, rfl, ?_, ⟨_, rfl⟩, hW, hsame.mono (by decide) (by decide)⟩
    · refine XS.istoreN X92.here hx rfl (hb hby at_133) rfl (l' := #[.val (.int p0), .val (.ref b1), .val (.int (11 : Int32)), .unset]) rfl ?_
      show Steps p.tables e below (T92.setTop (mkF m 134 #[.val (.int p0), .val (.ref b1), .val (.int (11 : Int32)), .unset] [])) _
      refine XS.iloadN X92.here hx rfl (hb hby at_134) rfl ?_
      show Steps p.tables e below (T92.setTop (mkF m 135 #[.val (.int p0), .val (.ref b1), .val (.int (11 : Int32)), .unset] [(.int (11 : Int32))])) _
      refine XS.bipush X92.here hx rfl (hb hby at_135) ?_
      show Steps p.tables e below (T92.setTop (mkF m 137 #[.val (.int p0), .val (.ref b1), .val (.int (11 : Int32)), .unset] [(.int (8 : Int32)), (.int (11 : Int32))])) _
      refine XS.icmpYes X92.here hx rfl (pc0 := 137) (pc' := 144) rfl (hb hby at_137) rfl (flt (by decide : ¬ ((11 : Int32) < (8 : Int32)))).2.1 (by decide) (by decide) ?_
      show Steps p.tables e below (T92.setTop (mkF m 144 #[.val (.int p0), .val (.ref b1), .val (.int (11 : Int32)), .unset] [])) _
      refine XS.iconst X92.here hx rfl (hb hby at_144) ?_
      show Steps p.tables e below (T92.setTop (mkF m 145 #[.val (.int p0), .val (.ref b1), .val (.int (11 : Int32)), .unset] [(.int (0 : Int32))])) _
      refine XS.istoreN X92.here hx rfl (hb hby at_145) rfl (l' := #[.val (.int p0), .val (.ref b1), .val (.int (11 : Int32)), .val (.int (0 : Int32))]) rfl ?_
      show Steps p.tables e below (T92.setTop (mkF m 146 #[.val (.int p0), .val (.ref b1), .val (.int (11 : Int32)), .val (.int (0 : Int32))] [])) _
      refine XS.aloadN X92.here hx rfl (hb hby at_146) rfl rfl ?_
      show Steps p.tables e below (T92.setTop (mkF m 147 #[.val (.int p0), .val (.ref b1), .val (.int (11 : Int32)), .val (.int (0 : Int32))] [(.ref b1)])) _
      refine XS.iloadN X92.here hx rfl (hb hby at_147) rfl ?_
      show Steps p.tables e below (T92.setTop (mkF m 148 #[.val (.int p0), .val (.ref b1), .val (.int (11 : Int32)), .val (.int (0 : Int32))] [(.int (11 : Int32)), (.ref b1)])) _
      refine X92.aaload hx (j := (11 : Int32)) (v := (.ref a_START)) (by rw [e92]; exact Ar130.1) (State.isArrayOf_alike hZ.alike Ar130.2.1) rfl Ar130.2.2 hin130 hat130 (g := (mkF m 148 #[.val (.int p0), .val (.ref b1), .val (.int (11 : Int32)), .val (.int (0 : Int32))] [(.int (11 : Int32)), (.ref b1)])) rfl rfl (hb hby at_148) _ ?_
      show Steps p.tables e below (T92.setTop (mkF m 149 #[.val (.int p0), .val (.ref b1), .val (.int (11 : Int32)), .val (.int (0 : Int32))] [(.ref a_START)])) _
      refine st131.trans ?_
      show Steps p.tables e below (T131.setTop (mkF m 152 #[.val (.int p0), .val (.ref b1), .val (.int (11 : Int32)), .val (.int (0 : Int32))] [(.int (0 : Int32))])) _
      refine XS.iloadN X131.here hx rfl (hb hby at_152) rfl ?_
      show Steps p.tables e below (T131.setTop (mkF m 153 #[.val (.int p0), .val (.ref b1), .val (.int (11 : Int32)), .val (.int (0 : Int32))] [(.int (0 : Int32)), (.int (0 : Int32))])) _
      refine XS.icmpNo X131.here hx rfl (hb hby at_153) rfl (teq (by decide : (0 : Int32) = (0 : Int32))).2 ?_
      show Steps p.tables e below (T131.setTop (mkF m 156 #[.val (.int p0), .val (.ref b1), .val (.int (11 : Int32)), .val (.int (0 : Int32))] [])) _
      refine XS.iconst X131.here hx rfl (hb hby at_156) ?_
      show Steps p.tables e below (T131.setTop (mkF m 157 #[.val (.int p0), .val (.ref b1), .val (.int (11 : Int32)), .val (.int (0 : Int32))] [(.int (1 : Int32))])) _
      refine XS.goto X131.here hx rfl (pc0 := 157) (pc' := 161) rfl (hb hby at_157) (by decide) (by decide) ?_
      show Steps p.tables e below (T131.setTop (mkF m 161 #[.val (.int p0), .val (.ref b1), .val (.int (11 : Int32)), .val (.int (0 : Int32))] [(.int (1 : Int32))])) _
      exact retN X131 hx (t := .boolean) Bd.returns (by simp) (hb hby at_161) hr
    · show Q0 n0 _ T131.heap _
      rw [e131]
      exact ⟨rfl, N131⟩
  · have gp132 := gp95
    rw [hk] at gp132
    obtain ⟨c133, Ar133, q133, S133, M133, Hh133, G133⟩ := (id v93)
    have hin133 : ¬ ((12 : Int32) < 0 ∨ c133.slots.size ≤ ((12 : Int32)).toNatClampNeg) := inb_of S133 ⟨by decide, by decide⟩
    have hat133 : c133.slots[((12 : Int32)).toNatClampNeg]? = some (.ref a_NOT_START) := Hh133.at hin133 rfl
    obtain ⟨cq134, kq134, q134a, q134b, q134c⟩ := isOf hZ e92 ((hS.2.2.2.2.2.2.2.2.2.2.2.2.2.2.2.2.2.2.2.2.2.2.2.2.1.ext O94.2))
    obtain ⟨_, _, ⟨T134, L134, k134, n134⟩, -, X134, ⟨Lc134, hQ134, l134, y134, z134⟩, st134⟩ := X92.virtualBack hx (y := (⟨"com/example/rows_by_rule/rowsbyrule/query/FieldOperator", "takesSubquery", "()Z"⟩ : MethodName)) (z := (⟨"com/example/rows_by_rule/rowsbyrule/query/FieldOperator", "takesSubquery", "()Z"⟩ : MethodName)) hown (mvT hZ (hw _ (List.mem_of_getElem? (i := 41) rfl))) (mvT hZ (hw _ (List.mem_of_getElem? (i := 42) rfl))) (notFace_of_selects (args := #[]) (mvT hZ (hw _ (List.mem_of_getElem? (i := 44) rfl)))) (mvT hZ (hw _ (List.mem_of_getElem? (i := 44) rfl))) (mvT hZ (hw _ (List.mem_of_getElem? (i := 43) rfl))) (by decide) (backOf (W := 0) (rm1 l Z a0 hw [] a_EQ a_NE a_GT a_GE a_LT a_LE a_IN a_NOT_IN a_NULL a_LIKE a_NOT_LIKE a_START a_NOT_START a_END a_NOT_END a_CONTAIN a_NOT_CONTAIN a_RX a_COMPARISON a_LIST a_PATTERN a_NULL_TEST hS a_NOT_START a_PATTERN (0 : Int32) h92 n0 O94 (hS.2.2.2.2.2.2.2.2.2.2.2.2.2.2.2.2.2.2.2.2.2.2.2.2.2.2.2.2.2.2.2.2.2.2.2.2.2.2.2.2.2.2.2.2.2.2.2.2.2.2.2.2.2.2.2.2.2.2.2.2.2.2.1.ext O94.2) ⟨fun q => absurd q (Fld.ne hS.2.2.2.2.2.2.2.2.2.2.2.2.2.2.2.2.2.2.2.2.2.2.2.2.2.2.2.2.2.2.2.2.2.2.2.2.2.2.2.2.2.2.2.2.2.2.2.2.2.2.2.2.2.2.2.1 hS.2.2.2.2.2.2.2.2.2.2.2.2.2.2.2.2.2.2.2.2.2.2.2.2.2.2.2.2.2.2.2.2.2.2.2.2.2.2.2.2.2.2.1 (fun q => absurd (Value.int.inj q) (by decide))), fun _ _ => rfl, fun _ q => absurd q (Fld.ne hS.2.2.2.2.2.2.2.2.2.2.2.2.2.2.2.2.2.2.2.2.2.2.2.2.2.2.2.2.2.2.2.2.2.2.2.2.2.2.2.2.2.2.2.2.2.2.2.2.2.2.2.2.2.2.2.1 hS.2.2.2.2.2.2.2.2.2.2.2.2.2.2.2.2.2.2.2.2.2.2.2.2.2.2.2.2.2.2.2.2.2.2.2.2.2.2.2.2.2.1 (fun q => absurd (Value.int.inj q) (by decide))), fun _ q => absurd q (Fld.ne hS.2.2.2.2.2.2.2.2.2.2.2.2.2.2.2.2.2.2.2.2.2.2.2.2.2.2.2.2.2.2.2.2.2.2.2.2.2.2.2.2.2.2.2.2.2.2.2.2.2.2.2.2.2.2.2.1 hS.2.2.2.2.2.2.2.2.2.2.2.2.2.2.2.2.2.2.2.2.2.2.2.2.2.2.2.2.2.2.2.2.2.2.2.2.2.2.2.2.2.1 (fun q => absurd (Value.int.inj q) (by decide)))⟩) hZ (hw _ (List.mem_of_getElem? (i := 45) rfl)) (hw _ (List.mem_of_getElem? (i := 3) rfl)) (by decide) (by decide)) q134a q134c (g := (mkF m 149 #[.val (.int p0), .val (.ref b1), .val (.int (12 : Int32)), .val (.int (0 : Int32))] [(.ref a_NOT_START)])) rfl (by rw [hml]; rfl) (Steps.refl _) (argsL := []) (rest := []) (lenOf pd_0 rfl) rfl (by show 2 * 0 + _ ≤ _; exact Nat.le_of_eq rfl) (hb hby at_149) (fun _ _ => ⟨rfl, e92, (by decide : 1 + 0 ≤ _), (by decide : 18 + 0 ≤ _)⟩)
    dsimp only [Pt.U, Pt.locs, Pt.cells, Pt.slots] at X134 l134 y134 z134 st134 hQ134
    have X134 := own_to X134 l134 y134 z134
    obtain ⟨rfl, N134q, e134⟩ := hQ134
    have N134 := Fr.app N92 N134q
    obtain ⟨fs, hr, hrun, hended, hW, hsame⟩ := X134.leave (v := (some (.int (1 : Int32)))) (fun h => by rw [Bd.returns] at h; cases h)
    refine ⟨_, _, gp132 _ ?_, hrun, hended, _, _, rfl, ?_, ⟨_, rfl⟩, hW, hsame.mono (by decide) (by decide)⟩
    · refine XS.istoreN X92.here hx rfl (hb hby at_133) rfl (l' := #[.val (.int p0), .val (.ref b1), .val (.int (12 : Int32)), .unset]) rfl ?_
      show Steps p.tables e below (T92.setTop (mkF m 134 #[.val (.int p0), .val (.ref b1), .val (.int (12 : Int32)), .unset] [])) _
      refine XS.iloadN X92.here hx rfl (hb hby at_134) rfl ?_
      show Steps p.tables e below (T92.setTop (mkF m 135 #[.val (.int p0), .val (.ref b1), .val (.int (12 : Int32)), .unset] [(.int (12 : Int32))])) _
      refine XS.bipush X92.here hx rfl (hb hby at_135) ?_
      show Steps p.tables e below (T92.setTop (mkF m 137 #[.val (.int p0), .val (.ref b1), .val (.int (12 : Int32)), .unset] [(.int (8 : Int32)), (.int (12 : Int32))])) _
      refine XS.icmpYes X92.here hx rfl (pc0 := 137) (pc' := 144) rfl (hb hby at_137) rfl (flt (by decide : ¬ ((12 : Int32) < (8 : Int32)))).2.1 (by decide) (by decide) ?_
      show Steps p.tables e below (T92.setTop (mkF m 144 #[.val (.int p0), .val (.ref b1), .val (.int (12 : Int32)), .unset] [])) _
      refine XS.iconst X92.here hx rfl (hb hby at_144) ?_
      show Steps p.tables e below (T92.setTop (mkF m 145 #[.val (.int p0), .val (.ref b1), .val (.int (12 : Int32)), .unset] [(.int (0 : Int32))])) _
      refine XS.istoreN X92.here hx rfl (hb hby at_145) rfl (l' := #[.val (.int p0), .val (.ref b1), .val (.int (12 : Int32)), .val (.int (0 : Int32))]) rfl ?_
      show Steps p.tables e below (T92.setTop (mkF m 146 #[.val (.int p0), .val (.ref b1), .val (.int (12 : Int32)), .val (.int (0 : Int32))] [])) _
      refine XS.aloadN X92.here hx rfl (hb hby at_146) rfl rfl ?_
      show Steps p.tables e below (T92.setTop (mkF m 147 #[.val (.int p0), .val (.ref b1), .val (.int (12 : Int32)), .val (.int (0 : Int32))] [(.ref b1)])) _
      refine XS.iloadN X92.here hx rfl (hb hby at_147) rfl ?_
      show Steps p.tables e below (T92.setTop (mkF m 148 #[.val (.int p0), .val (.ref b1), .val (.int (12 : Int32)), .val (.int (0 : Int32))] [(.int (12 : Int32)), (.ref b1)])) _
      refine X92.aaload hx (j := (12 : Int32)) (v := (.ref a_NOT_START)) (by rw [e92]; exact Ar133.1) (State.isArrayOf_alike hZ.alike Ar133.2.1) rfl Ar133.2.2 hin133 hat133 (g := (mkF m 148 #[.val (.int p0), .val (.ref b1), .val (.int (12 : Int32)), .val (.int (0 : Int32))] [(.int (12 : Int32)), (.ref b1)])) rfl rfl (hb hby at_148) _ ?_
      show Steps p.tables e below (T92.setTop (mkF m 149 #[.val (.int p0), .val (.ref b1), .val (.int (12 : Int32)), .val (.int (0 : Int32))] [(.ref a_NOT_START)])) _
      refine st134.trans ?_
      show Steps p.tables e below (T134.setTop (mkF m 152 #[.val (.int p0), .val (.ref b1), .val (.int (12 : Int32)), .val (.int (0 : Int32))] [(.int (0 : Int32))])) _
      refine XS.iloadN X134.here hx rfl (hb hby at_152) rfl ?_
      show Steps p.tables e below (T134.setTop (mkF m 153 #[.val (.int p0), .val (.ref b1), .val (.int (12 : Int32)), .val (.int (0 : Int32))] [(.int (0 : Int32)), (.int (0 : Int32))])) _
      refine XS.icmpNo X134.here hx rfl (hb hby at_153) rfl (teq (by decide : (0 : Int32) = (0 : Int32))).2 ?_
      show Steps p.tables e below (T134.setTop (mkF m 156 #[.val (.int p0), .val (.ref b1), .val (.int (12 : Int32)), .val (.int (0 : Int32))] [])) _
      refine XS.iconst X134.here hx rfl (hb hby at_156) ?_
      show Steps p.tables e below (T134.setTop (mkF m 157 #[.val (.int p0), .val (.ref b1), .val (.int (12 : Int32)), .val (.int (0 : Int32))] [(.int (1 : Int32))])) _
      refine XS.goto X134.here hx rfl (pc0 := 157) (pc' := 161) rfl (hb hby at_157) (by decide) (by decide) ?_
      show Steps p.tables e below (T134.setTop (mkF m 161 #[.val (.int p0), .val (.ref b1), .val (.int (12 : Int32)), .val (.int (0 : Int32))] [(.int (1 : Int32))])) _
      exact retN X134 hx (t := .boolean) Bd.returns (by simp) (hb hby at_161) hr
    · show Q0 n0 _ T134.heap _
      rw [e134]
      exact ⟨rfl, N134⟩
  · have gp135 := gp95
    rw [hk] at gp135
    obtain ⟨c136, Ar136, q136, S136, M136, Hh136, G136⟩ := (id v93)
    have hin136 : ¬ ((13 : Int32) < 0 ∨ c136.slots.size ≤ ((13 : Int32)).toNatClampNeg) := inb_of S136 ⟨by decide, by decide⟩
    have hat136 : c136.slots[((13 : Int32)).toNatClampNeg]? = some (.ref a_END) := Hh136.at hin136 rfl
    obtain ⟨cq137, kq137, q137a, q137b, q137c⟩ := isOf hZ e92 ((hS.2.2.2.2.2.2.2.2.2.2.2.2.2.2.2.2.2.2.2.2.2.2.2.2.2.2.1.ext O94.2))
    obtain ⟨_, _, ⟨T137, L137, k137, n137⟩, -, X137, ⟨Lc137, hQ137, l137, y137, z137⟩, st137⟩ := X92.virtualBack hx (y := (⟨"com/example/rows_by_rule/rowsbyrule/query/FieldOperator", "takesSubquery", "()Z"⟩ : MethodName)) (z := (⟨"com/example/rows_by_rule/rowsbyrule/query/FieldOperator", "takesSubquery", "()Z"⟩ : MethodName)) hown (mvT hZ (hw _ (List.mem_of_getElem? (i := 41) rfl))) (mvT hZ (hw _ (List.mem_of_getElem? (i := 42) rfl))) (notFace_of_selects (args := #[]) (mvT hZ (hw _ (List.mem_of_getElem? (i := 44) rfl)))) (mvT hZ (hw _ (List.mem_of_getElem? (i := 44) rfl))) (mvT hZ (hw _ (List.mem_of_getElem? (i := 43) rfl))) (by decide) (backOf (W := 0) (rm1 l Z a0 hw [] a_EQ a_NE a_GT a_GE a_LT a_LE a_IN a_NOT_IN a_NULL a_LIKE a_NOT_LIKE a_START a_NOT_START a_END a_NOT_END a_CONTAIN a_NOT_CONTAIN a_RX a_COMPARISON a_LIST a_PATTERN a_NULL_TEST hS a_END a_PATTERN (0 : Int32) h92 n0 O94 (hS.2.2.2.2.2.2.2.2.2.2.2.2.2.2.2.2.2.2.2.2.2.2.2.2.2.2.2.2.2.2.2.2.2.2.2.2.2.2.2.2.2.2.2.2.2.2.2.2.2.2.2.2.2.2.2.2.2.2.2.2.2.2.2.2.2.2.1.ext O94.2) ⟨fun q => absurd q (Fld.ne hS.2.2.2.2.2.2.2.2.2.2.2.2.2.2.2.2.2.2.2.2.2.2.2.2.2.2.2.2.2.2.2.2.2.2.2.2.2.2.2.2.2.2.2.2.2.2.2.2.2.2.2.2.2.2.2.1 hS.2.2.2.2.2.2.2.2.2.2.2.2.2.2.2.2.2.2.2.2.2.2.2.2.2.2.2.2.2.2.2.2.2.2.2.2.2.2.2.2.2.2.1 (fun q => absurd (Value.int.inj q) (by decide))), fun _ _ => rfl, fun _ q => absurd q (Fld.ne hS.2.2.2.2.2.2.2.2.2.2.2.2.2.2.2.2.2.2.2.2.2.2.2.2.2.2.2.2.2.2.2.2.2.2.2.2.2.2.2.2.2.2.2.2.2.2.2.2.2.2.2.2.2.2.2.1 hS.2.2.2.2.2.2.2.2.2.2.2.2.2.2.2.2.2.2.2.2.2.2.2.2.2.2.2.2.2.2.2.2.2.2.2.2.2.2.2.2.2.1 (fun q => absurd (Value.int.inj q) (by decide))), fun _ q => absurd q (Fld.ne hS.2.2.2.2.2.2.2.2.2.2.2.2.2.2.2.2.2.2.2.2.2.2.2.2.2.2.2.2.2.2.2.2.2.2.2.2.2.2.2.2.2.2.2.2.2.2.2.2.2.2.2.2.2.2.2.1 hS.2.2.2.2.2.2.2.2.2.2.2.2.2.2.2.2.2.2.2.2.2.2.2.2.2.2.2.2.2.2.2.2.2.2.2.2.2.2.2.2.2.1 (fun q => absurd (Value.int.inj q) (by decide)))⟩) hZ (hw _ (List.mem_of_getElem? (i := 45) rfl)) (hw _ (List.mem_of_getElem? (i := 3) rfl)) (by decide) (by decide)) q137a q137c (g := (mkF m 149 #[.val (.int p0), .val (.ref b1), .val (.int (13 : Int32)), .val (.int (0 : Int32))] [(.ref a_END)])) rfl (by rw [hml]; rfl) (Steps.refl _) (argsL := []) (rest := []) (lenOf pd_0 rfl) rfl (by show 2 * 0 + _ ≤ _; exact Nat.le_of_eq rfl) (hb hby at_149) (fun _ _ => ⟨rfl, e92, (by decide : 1 + 0 ≤ _), (by decide : 18 + 0 ≤ _)⟩)
    dsimp only [Pt.U, Pt.locs, Pt.cells, Pt.slots] at X137 l137 y137 z137 st137 hQ137
    have X137 := own_to X137 l137 y137 z137
    obtain ⟨rfl, N137q, e137⟩ := hQ137
    have N137 := Fr.app N92 N137q
    obtain ⟨fs, hr, hrun, hended, hW, hsame⟩ := X137.leave (v := (some (.int (1 : Int32)))) (fun h => by rw [Bd.returns] at h; cases h)
    refine ⟨_, _, gp135 _ ?_, hrun, hended, _, _, rfl, ?_, ⟨_, rfl⟩, hW, hsame.mono (by decide) (by decide)⟩
    · refine XS.istoreN X92.here hx rfl (hb hby at_133) rfl (l' := #[.val (.int p0), .val (.ref b1), .val (.int (13 : Int32)), .unset]) rfl ?_
      show Steps p.tables e below (T92.setTop (mkF m 134 #[.val (.int p0), .val (.ref b1), .val (.int (13 : Int32)), .unset] [])) _
      refine XS.iloadN X92.here hx rfl (hb hby at_134) rfl ?_
      show Steps p.tables e below (T92.setTop (mkF m 135 #[.val (.int p0), .val (.ref b1), .val (.int (13 : Int32)), .unset] [(.int (13 : Int32))])) _
      refine XS.bipush X92.here hx rfl (hb hby at_135) ?_
      show Steps p.tables e below (T92.setTop (mkF m 137 #[.val (.int p0), .val (.ref b1), .val (.int (13 : Int32)), .unset] [(.int (8 : Int32)), (.int (13 : Int32))])) _
      refine XS.icmpYes X92.here hx rfl (pc0 := 137) (pc' := 144) rfl (hb hby at_137) rfl (flt (by decide : ¬ ((13 : Int32) < (8 : Int32)))).2.1 (by decide) (by decide) ?_
      show Steps p.tables e below (T92.setTop (mkF m 144 #[.val (.int p0), .val (.ref b1), .val (.int (13 : Int32)), .unset] [])) _
      refine XS.iconst X92.here hx rfl (hb hby at_144) ?_
      show Steps p.tables e below (T92.setTop (mkF m 145 #[.val (.int p0), .val (.ref b1), .val (.int (13 : Int32)), .unset] [(.int (0 : Int32))])) _
      refine XS.istoreN X92.here hx rfl (hb hby at_145) rfl (l' := #[.val (.int p0), .val (.ref b1), .val (.int (13 : Int32)), .val (.int (0 : Int32))]) rfl ?_
      show Steps p.tables e below (T92.setTop (mkF m 146 #[.val (.int p0), .val (.ref b1), .val (.int (13 : Int32)), .val (.int (0 : Int32))] [])) _
      refine XS.aloadN X92.here hx rfl (hb hby at_146) rfl rfl ?_
      show Steps p.tables e below (T92.setTop (mkF m 147 #[.val (.int p0), .val (.ref b1), .val (.int (13 : Int32)), .val (.int (0 : Int32))] [(.ref b1)])) _
      refine XS.iloadN X92.here hx rfl (hb hby at_147) rfl ?_
      show Steps p.tables e below (T92.setTop (mkF m 148 #[.val (.int p0), .val (.ref b1), .val (.int (13 : Int32)), .val (.int (0 : Int32))] [(.int (13 : Int32)), (.ref b1)])) _
      refine X92.aaload hx (j := (13 : Int32)) (v := (.ref a_END)) (by rw [e92]; exact Ar136.1) (State.isArrayOf_alike hZ.alike Ar136.2.1) rfl Ar136.2.2 hin136 hat136 (g := (mkF m 148 #[.val (.int p0), .val (.ref b1), .val (.int (13 : Int32)), .val (.int (0 : Int32))] [(.int (13 : Int32)), (.ref b1)])) rfl rfl (hb hby at_148) _ ?_
      show Steps p.tables e below (T92.setTop (mkF m 149 #[.val (.int p0), .val (.ref b1), .val (.int (13 : Int32)), .val (.int (0 : Int32))] [(.ref a_END)])) _
      refine st137.trans ?_
      show Steps p.tables e below (T137.setTop (mkF m 152 #[.val (.int p0), .val (.ref b1), .val (.int (13 : Int32)), .val (.int (0 : Int32))] [(.int (0 : Int32))])) _
      refine XS.iloadN X137.here hx rfl (hb hby at_152) rfl ?_
      show Steps p.tables e below (T137.setTop (mkF m 153 #[.val (.int p0), .val (.ref b1), .val (.int (13 : Int32)), .val (.int (0 : Int32))] [(.int (0 : Int32)), (.int (0 : Int32))])) _
      refine XS.icmpNo X137.here hx rfl (hb hby at_153) rfl (teq (by decide : (0 : Int32) = (0 : Int32))).2 ?_
      show Steps p.tables e below (T137.setTop (mkF m 156 #[.val (.int p0), .val (.ref b1), .val (.int (13 : Int32)), .val (.int (0 : Int32))] [])) _
      refine XS.iconst X137.here hx rfl (hb hby at_156) ?_
      show Steps p.tables e below (T137.setTop (mkF m 157 #[.val (.int p0), .val (.ref b1), .val (.int (13 : Int32)), .val (.int (0 : Int32))] [(.int (1 : Int32))])) _
      refine XS.goto X137.here hx rfl (pc0 := 157) (pc' := 161) rfl (hb hby at_157) (by decide) (by decide) ?_
      show Steps p.tables e below (T137.setTop (mkF m 161 #[.val (.int p0), .val (.ref b1), .val (.int (13 : Int32)), .val (.int (0 : Int32))] [(.int (1 : Int32))])) _
      exact retN X137 hx (t := .boolean) Bd.returns (by simp) (hb hby at_161) hr
    · show Q0 n0 _ T137.heap _
      rw [e137]
      exact ⟨rfl, N137⟩
  · have gp138 := gp95
    rw [hk] at gp138
    obtain ⟨c139, Ar139, q139, S139, M139, Hh139, G139⟩ := (id v93)
    have hin139 : ¬ ((14 : Int32) < 0 ∨ c139.slots.size ≤ ((14 : Int32)).toNatClampNeg) := inb_of S139 ⟨by decide, by decide⟩
    have hat139 : c139.slots[((14 : Int32)).toNatClampNeg]? = some (.ref a_NOT_END) := Hh139.at hin139 rfl
    obtain ⟨cq140, kq140, q140a, q140b, q140c⟩ := isOf hZ e92 ((hS.2.2.2.2.2.2.2.2.2.2.2.2.2.2.2.2.2.2.2.2.2.2.2.2.2.2.2.2.1.ext O94.2))
    obtain ⟨_, _, ⟨T140, L140, k140, n140⟩, -, X140, ⟨Lc140, hQ140, l140, y140, z140⟩, st140⟩ := X92.virtualBack hx (y := (⟨"com/example/rows_by_rule/rowsbyrule/query/FieldOperator", "takesSubquery", "()Z"⟩ : MethodName)) (z := (⟨"com/example/rows_by_rule/rowsbyrule/query/FieldOperator", "takesSubquery", "()Z"⟩ : MethodName)) hown (mvT hZ (hw _ (List.mem_of_getElem? (i := 41) rfl))) (mvT hZ (hw _ (List.mem_of_getElem? (i := 42) rfl))) (notFace_of_selects (args := #[]) (mvT hZ (hw _ (List.mem_of_getElem? (i := 44) rfl)))) (mvT hZ (hw _ (List.mem_of_getElem? (i := 44) rfl))) (mvT hZ (hw _ (List.mem_of_getElem? (i := 43) rfl))) (by decide) (backOf (W := 0) (rm1 l Z a0 hw [] a_EQ a_NE a_GT a_GE a_LT a_LE a_IN a_NOT_IN a_NULL a_LIKE a_NOT_LIKE a_START a_NOT_START a_END a_NOT_END a_CONTAIN a_NOT_CONTAIN a_RX a_COMPARISON a_LIST a_PATTERN a_NULL_TEST hS a_NOT_END a_PATTERN (0 : Int32) h92 n0 O94 (hS.2.2.2.2.2.2.2.2.2.2.2.2.2.2.2.2.2.2.2.2.2.2.2.2.2.2.2.2.2.2.2.2.2.2.2.2.2.2.2.2.2.2.2.2.2.2.2.2.2.2.2.2.2.2.2.2.2.2.2.2.2.2.2.2.2.2.2.2.2.1.ext O94.2) ⟨fun q => absurd q (Fld.ne hS.2.2.2.2.2.2.2.2.2.2.2.2.2.2.2.2.2.2.2.2.2.2.2.2.2.2.2.2.2.2.2.2.2.2.2.2.2.2.2.2.2.2.2.2.2.2.2.2.2.2.2.2.2.2.2.1 hS.2.2.2.2.2.2.2.2.2.2.2.2.2.2.2.2.2.2.2.2.2.2.2.2.2.2.2.2.2.2.2.2.2.2.2.2.2.2.2.2.2.2.1 (fun q => absurd (Value.int.inj q) (by decide))), fun _ _ => rfl, fun _ q => absurd q (Fld.ne hS.2.2.2.2.2.2.2.2.2.2.2.2.2.2.2.2.2.2.2.2.2.2.2.2.2.2.2.2.2.2.2.2.2.2.2.2.2.2.2.2.2.2.2.2.2.2.2.2.2.2.2.2.2.2.2.1 hS.2.2.2.2.2.2.2.2.2.2.2.2.2.2.2.2.2.2.2.2.2.2.2.2.2.2.2.2.2.2.2.2.2.2.2.2.2.2.2.2.2.1 (fun q => absurd (Value.int.inj q) (by decide))), fun _ q => absurd q (Fld.ne hS.2.2.2.2.2.2.2.2.2.2.2.2.2.2.2.2.2.2.2.2.2.2.2.2.2.2.2.2.2.2.2.2.2.2.2.2.2.2.2.2.2.2.2.2.2.2.2.2.2.2.2.2.2.2.2.1 hS.2.2.2.2.2.2.2.2.2.2.2.2.2.2.2.2.2.2.2.2.2.2.2.2.2.2.2.2.2.2.2.2.2.2.2.2.2.2.2.2.2.1 (fun q => absurd (Value.int.inj q) (by decide)))⟩) hZ (hw _ (List.mem_of_getElem? (i := 45) rfl)) (hw _ (List.mem_of_getElem? (i := 3) rfl)) (by decide) (by decide)) q140a q140c (g := (mkF m 149 #[.val (.int p0), .val (.ref b1), .val (.int (14 : Int32)), .val (.int (0 : Int32))] [(.ref a_NOT_END)])) rfl (by rw [hml]; rfl) (Steps.refl _) (argsL := []) (rest := []) (lenOf pd_0 rfl) rfl (by show 2 * 0 + _ ≤ _; exact Nat.le_of_eq rfl) (hb hby at_149) (fun _ _ => ⟨rfl, e92, (by decide : 1 + 0 ≤ _), (by decide : 18 + 0 ≤ _)⟩)
    dsimp only [Pt.U, Pt.locs, Pt.cells, Pt.slots] at X140 l140 y140 z140 st140 hQ140
    have X140 := own_to X140 l140 y140 z140
    obtain ⟨rfl, N140q, e140⟩ := hQ140
    have N140 := Fr.app N92 N140q
    obtain ⟨fs, hr, hrun, hended, hW, hsame⟩ := X140.leave (v := (some (.int (1 : Int32)))) (fun h => by rw [Bd.returns] at h; cases h)
    refine ⟨_, _, gp138 _ ?_, hrun, hended, _, _, rfl, ?_, ⟨_, rfl⟩, hW, hsame.mono (by decide) (by decide)⟩
    · refine XS.istoreN X92.here hx rfl (hb hby at_133) rfl (l' := #[.val (.int p0), .val (.ref b1), .val (.int (14 : Int32)), .unset]) rfl ?_
      show Steps p.tables e below (T92.setTop (mkF m 134 #[.val (.int p0), .val (.ref b1), .val (.int (14 : Int32)), .unset] [])) _
      refine XS.iloadN X92.here hx rfl (hb hby at_134) rfl ?_
      show Steps p.tables e below (T92.setTop (mkF m 135 #[.val (.int p0), .val (.ref b1), .val (.int (14 : Int32)), .unset] [(.int (14 : Int32))])) _
      refine XS.bipush X92.here hx rfl (hb hby at_135) ?_
      show Steps p.tables e below (T92.setTop (mkF m 137 #[.val (.int p0), .val (.ref b1), .val (.int (14 : Int32)), .unset] [(.int (8 : Int32)), (.int (14 : Int32))])) _
      refine XS.icmpYes X92.here hx rfl (pc0 := 137) (pc' := 144) rfl (hb hby at_137) rfl (flt (by decide : ¬ ((14 : Int32) < (8 : Int32)))).2.1 (by decide) (by decide) ?_
      show Steps p.tables e below (T92.setTop (mkF m 144 #[.val (.int p0), .val (.ref b1), .val (.int (14 : Int32)), .unset] [])) _
      refine XS.iconst X92.here hx rfl (hb hby at_144) ?_
      show Steps p.tables e below (T92.setTop (mkF m 145 #[.val (.int p0), .val (.ref b1), .val (.int (14 : Int32)), .unset] [(.int (0 : Int32))])) _
      refine XS.istoreN X92.here hx rfl (hb hby at_145) rfl (l' := #[.val (.int p0), .val (.ref b1), .val (.int (14 : Int32)), .val (.int (0 : Int32))]) rfl ?_
      show Steps p.tables e below (T92.setTop (mkF m 146 #[.val (.int p0), .val (.ref b1), .val (.int (14 : Int32)), .val (.int (0 : Int32))] [])) _
      refine XS.aloadN X92.here hx rfl (hb hby at_146) rfl rfl ?_
      show Steps p.tables e below (T92.setTop (mkF m 147 #[.val (.int p0), .val (.ref b1), .val (.int (14 : Int32)), .val (.int (0 : Int32))] [(.ref b1)])) _
      refine XS.iloadN X92.here hx rfl (hb hby at_147) rfl ?_
      show Steps p.tables e below (T92.setTop (mkF m 148 #[.val (.int p0), .val (.ref b1), .val (.int (14 : Int32)), .val (.int (0 : Int32))] [(.int (14 : Int32)), (.ref b1)])) _
      refine X92.aaload hx (j := (14 : Int32)) (v := (.ref a_NOT_END)) (by rw [e92]; exact Ar139.1) (State.isArrayOf_alike hZ.alike Ar139.2.1) rfl Ar139.2.2 hin139 hat139 (g := (mkF m 148 #[.val (.int p0), .val (.ref b1), .val (.int (14 : Int32)), .val (.int (0 : Int32))] [(.int (14 : Int32)), (.ref b1)])) rfl rfl (hb hby at_148) _ ?_
      show Steps p.tables e below (T92.setTop (mkF m 149 #[.val (.int p0), .val (.ref b1), .val (.int (14 : Int32)), .val (.int (0 : Int32))] [(.ref a_NOT_END)])) _
      refine st140.trans ?_
      show Steps p.tables e below (T140.setTop (mkF m 152 #[.val (.int p0), .val (.ref b1), .val (.int (14 : Int32)), .val (.int (0 : Int32))] [(.int (0 : Int32))])) _
      refine XS.iloadN X140.here hx rfl (hb hby at_152) rfl ?_
      show Steps p.tables e below (T140.setTop (mkF m 153 #[.val (.int p0), .val (.ref b1), .val (.int (14 : Int32)), .val (.int (0 : Int32))] [(.int (0 : Int32)), (.int (0 : Int32))])) _
      refine XS.icmpNo X140.here hx rfl (hb hby at_153) rfl (teq (by decide : (0 : Int32) = (0 : Int32))).2 ?_
      show Steps p.tables e below (T140.setTop (mkF m 156 #[.val (.int p0), .val (.ref b1), .val (.int (14 : Int32)), .val (.int (0 : Int32))] [])) _
      refine XS.iconst X140.here hx rfl (hb hby at_156) ?_
      show Steps p.tables e below (T140.setTop (mkF m 157 #[.val (.int p0), .val (.ref b1), .val (.int (14 : Int32)), .val (.int (0 : Int32))] [(.int (1 : Int32))])) _
      refine XS.goto X140.here hx rfl (pc0 := 157) (pc' := 161) rfl (hb hby at_157) (by decide) (by decide) ?_
      show Steps p.tables e below (T140.setTop (mkF m 161 #[.val (.int p0), .val (.ref b1), .val (.int (14 : Int32)), .val (.int (0 : Int32))] [(.int (1 : Int32))])) _
      exact retN X140 hx (t := .boolean) Bd.returns (by simp) (hb hby at_161) hr
    · show Q0 n0 _ T140.heap _
      rw [e140]
      exact ⟨rfl, N140⟩
  · have gp141 := gp95
    rw [hk] at gp141
    obtain ⟨c142, Ar142, q142, S142, M142, Hh142, G142⟩ := (id v93)
    have hin142 : ¬ ((15 : Int32) < 0 ∨ c142.slots.size ≤ ((15 : Int32)).toNatClampNeg) := inb_of S142 ⟨by decide, by decide⟩
    have hat142 : c142.slots[((15 : Int32)).toNatClampNeg]? = some (.ref a_CONTAIN) := Hh142.at hin142 rfl
    obtain ⟨cq143, kq143, q143a, q143b, q143c⟩ := isOf hZ e92 ((hS.2.2.2.2.2.2.2.2.2.2.2.2.2.2.2.2.2.2.2.2.2.2.2.2.2.2.2.2.2.2.1.ext O94.2))
    obtain ⟨_, _, ⟨T143, L143, k143, n143⟩, -, X143, ⟨Lc143, hQ143, l143, y143, z143⟩, st143⟩ := X92.virtualBack hx (y := (⟨"com/example/rows_by_rule/rowsbyrule/query/FieldOperator", "takesSubquery", "()Z"⟩ : MethodName)) (z := (⟨"com/example/rows_by_rule/rowsbyrule/query/FieldOperator", "takesSubquery", "()Z"⟩ : MethodName)) hown (mvT hZ (hw _ (List.mem_of_getElem? (i := 41) rfl))) (mvT hZ (hw _ (List.mem_of_getElem? (i := 42) rfl))) (notFace_of_selects (args := #[]) (mvT hZ (hw _ (List.mem_of_getElem? (i := 44) rfl)))) (mvT hZ (hw _ (List.mem_of_getElem? (i := 44) rfl))) (mvT hZ (hw _ (List.mem_of_getElem? (i := 43) rfl))) (by decide) (backOf (W := 0) (rm1 l Z a0 hw [] a_EQ a_NE a_GT a_GE a_LT a_LE a_IN a_NOT_IN a_NULL a_LIKE a_NOT_LIKE a_START a_NOT_START a_END a_NOT_END a_CONTAIN a_NOT_CONTAIN a_RX a_COMPARISON a_LIST a_PATTERN a_NULL_TEST hS a_CONTAIN a_PATTERN (0 : Int32) h92 n0 O94 (hS.2.2.2.2.2.2.2.2.2.2.2.2.2.2.2.2.2.2.2.2.2.2.2.2.2.2.2.2.2.2.2.2.2.2.2.2.2.2.2.2.2.2.2.2.2.2.2.2.2.2.2.2.2.2.2.2.2.2.2.2.2.2.2.2.1.ext O94.2) ⟨fun q => absurd q (Fld.ne hS.2.2.2.2.2.2.2.2.2.2.2.2.2.2.2.2.2.2.2.2.2.2.2.2.2.2.2.2.2.2.2.2.2.2.2.2.2.2.2.2.2.2.2.2.2.2.2.2.2.2.2.2.2.2.2.1 hS.2.2.2.2.2.2.2.2.2.2.2.2.2.2.2.2.2.2.2.2.2.2.2.2.2.2.2.2.2.2.2.2.2.2.2.2.2.2.2.2.2.2.1 (fun q => absurd (Value.int.inj q) (by decide))), fun _ _ => rfl, fun _ q => absurd q (Fld.ne hS.2.2.2.2.2.2.2.2.2.2.2.2.2.2.2.2.2.2.2.2.2.2.2.2.2.2.2.2.2.2.2.2.2.2.2.2.2.2.2.2.2.2.2.2.2.2.2.2.2.2.2.2.2.2.2.1 hS.2.2.2.2.2.2.2.2.2.2.2.2.2.2.2.2.2.2.2.2.2.2.2.2.2.2.2.2.2.2.2.2.2.2.2.2.2.2.2.2.2.1 (fun q => absurd (Value.int.inj q) (by decide))), fun _ q => absurd q (Fld.ne hS.2.2.2.2.2.2.2.2.2.2.2.2.2.2.2.2.2.2.2.2.2.2.2.2.2.2.2.2.2.2.2.2.2.2.2.2.2.2.2.2.2.2.2.2.2.2.2.2.2.2.2.2.2.2.2.1 hS.2.2.2.2.2.2.2.2.2.2.2.2.2.2.2.2.2.2.2.2.2.2.2.2.2.2.2.2.2.2.2.2.2.2.2.2.2.2.2.2.2.1 (fun q => absurd (Value.int.inj q) (by decide)))⟩) hZ (hw _ (List.mem_of_getElem? (i := 45) rfl)) (hw _ (List.mem_of_getElem? (i := 3) rfl)) (by decide) (by decide)) q143a q143c (g := (mkF m 149 #[.val (.int p0), .val (.ref b1), .val (.int (15 : Int32)), .val (.int (0 : Int32))] [(.ref a_CONTAIN)])) rfl (by rw [hml]; rfl) (Steps.refl _) (argsL := []) (rest := []) (lenOf pd_0 rfl) rfl (by show 2 * 0 + _ ≤ _; exact Nat.le_of_eq rfl) (hb hby at_149) (fun _ _ => ⟨rfl, e92, (by decide : 1 + 0 ≤ _), (by decide : 18 + 0 ≤ _)⟩)
    dsimp only [Pt.U, Pt.locs, Pt.cells, Pt.slots] at X143 l143 y143 z143 st143 hQ143
    have X143 := own_to X143 l143 y143 z143
    obtain ⟨rfl, N143q, e143⟩ := hQ143
    have N143 := Fr.app N92 N143q
    obtain ⟨fs, hr, hrun, hended, hW, hsame⟩ := X143.leave (v := (some (.int (1 : Int32)))) (fun h => by rw [Bd.returns] at h; cases h)
    refine ⟨_, _, gp141 _ ?_, hrun, hended, _, _, rfl, ?_, ⟨_, rfl⟩, hW, hsame.mono (by decide) (by decide)⟩
    · refine XS.istoreN X92.here hx rfl (hb hby at_133) rfl (l' := #[.val (.int p0), .val (.ref b1), .val (.int (15 : Int32)), .unset]) rfl ?_
      show Steps p.tables e below (T92.setTop (mkF m 134 #[.val (.int p0), .val (.ref b1), .val (.int (15 : Int32)), .unset] [])) _
      refine XS.iloadN X92.here hx rfl (hb hby at_134) rfl ?_
      show Steps p.tables e below (T92.setTop (mkF m 135 #[.val (.int p0), .val (.ref b1), .val (.int (15 : Int32)), .unset] [(.int (15 : Int32))])) _
      refine XS.bipush X92.here hx rfl (hb hby at_135) ?_
      show Steps p.tables e below (T92.setTop (mkF m 137 #[.val (.int p0), .val (.ref b1), .val (.int (15 : Int32)), .unset] [(.int (8 : Int32)), (.int (15 : Int32))])) _
      refine XS.icmpYes X92.here hx rfl (pc0 := 137) (pc' := 144) rfl (hb hby at_137) rfl (flt (by decide : ¬ ((15 : Int32) < (8 : Int32)))).2.1 (by decide) (by decide) ?_
      show Steps p.tables e below (T92.setTop (mkF m 144 #[.val (.int p0), .val (.ref b1), .val (.int (15 : Int32)), .unset] [])) _
      refine XS.iconst X92.here hx rfl (hb hby at_144) ?_
      show Steps p.tables e below (T92.setTop (mkF m 145 #[.val (.int p0), .val (.ref b1), .val (.int (15 : Int32)), .unset] [(.int (0 : Int32))])) _
      refine XS.istoreN X92.here hx rfl (hb hby at_145) rfl (l' := #[.val (.int p0), .val (.ref b1), .val (.int (15 : Int32)), .val (.int (0 : Int32))]) rfl ?_
      show Steps p.tables e below (T92.setTop (mkF m 146 #[.val (.int p0), .val (.ref b1), .val (.int (15 : Int32)), .val (.int (0 : Int32))] [])) _
      refine XS.aloadN X92.here hx rfl (hb hby at_146) rfl rfl ?_
      show Steps p.tables e below (T92.setTop (mkF m 147 #[.val (.int p0), .val (.ref b1), .val (.int (15 : Int32)), .val (.int (0 : Int32))] [(.ref b1)])) _
      refine XS.iloadN X92.here hx rfl (hb hby at_147) rfl ?_
      show Steps p.tables e below (T92.setTop (mkF m 148 #[.val (.int p0), .val (.ref b1), .val (.int (15 : Int32)), .val (.int (0 : Int32))] [(.int (15 : Int32)), (.ref b1)])) _
      refine X92.aaload hx (j := (15 : Int32)) (v := (.ref a_CONTAIN)) (by rw [e92]; exact Ar142.1) (State.isArrayOf_alike hZ.alike Ar142.2.1) rfl Ar142.2.2 hin142 hat142 (g := (mkF m 148 #[.val (.int p0), .val (.ref b1), .val (.int (15 : Int32)), .val (.int (0 : Int32))] [(.int (15 : Int32)), (.ref b1)])) rfl rfl (hb hby at_148) _ ?_
      show Steps p.tables e below (T92.setTop (mkF m 149 #[.val (.int p0), .val (.ref b1), .val (.int (15 : Int32)), .val (.int (0 : Int32))] [(.ref a_CONTAIN)])) _
      refine st143.trans ?_
      show Steps p.tables e below (T143.setTop (mkF m 152 #[.val (.int p0), .val (.ref b1), .val (.int (15 : Int32)), .val (.int (0 : Int32))] [(.int (0 : Int32))])) _
      refine XS.iloadN X143.here hx rfl (hb hby at_152) rfl ?_
      show Steps p.tables e below (T143.setTop (mkF m 153 #[.val (.int p0), .val (.ref b1), .val (.int (15 : Int32)), .val (.int (0 : Int32))] [(.int (0 : Int32)), (.int (0 : Int32))])) _
      refine XS.icmpNo X143.here hx rfl (hb hby at_153) rfl (teq (by decide : (0 : Int32) = (0 : Int32))).2 ?_
      show Steps p.tables e below (T143.setTop (mkF m 156 #[.val (.int p0), .val (.ref b1), .val (.int (15 : Int32)), .val (.int (0 : Int32))] [])) _
      refine XS.iconst X143.here hx rfl (hb hby at_156) ?_
      show Steps p.tables e below (T143.setTop (mkF m 157 #[.val (.int p0), .val (.ref b1), .val (.int (15 : Int32)), .val (.int (0 : Int32))] [(.int (1 : Int32))])) _
      refine XS.goto X143.here hx rfl (pc0 := 157) (pc' := 161) rfl (hb hby at_157) (by decide) (by decide) ?_
      show Steps p.tables e below (T143.setTop (mkF m 161 #[.val (.int p0), .val (.ref b1), .val (.int (15 : Int32)), .val (.int (0 : Int32))] [(.int (1 : Int32))])) _
      exact retN X143 hx (t := .boolean) Bd.returns (by simp) (hb hby at_161) hr
    · show Q0 n0 _ T143.heap _
      rw [e143]
      exact ⟨rfl, N143⟩
  · have gp144 := gp95
    rw [hk] at gp144
    obtain ⟨c145, Ar145, q145, S145, M145, Hh145, G145⟩ := (id v93)
    have hin145 : ¬ ((16 : Int32) < 0 ∨ c145.slots.size ≤ ((16 : Int32)).toNatClampNeg) := inb_of S145 ⟨by decide, by decide⟩
    have hat145 : c145.slots[((16 : Int32)).toNatClampNeg]? = some (.ref a_NOT_CONTAIN) := Hh145.at hin145 rfl
    obtain ⟨cq146, kq146, q146a, q146b, q146c⟩ := isOf hZ e92 ((hS.2.2.2.2.2.2.2.2.2.2.2.2.2.2.2.2.2.2.2.2.2.2.2.2.2.2.2.2.2.2.2.2.1.ext O94.2))
    obtain ⟨_, _, ⟨T146, L146, k146, n146⟩, -, X146, ⟨Lc146, hQ146, l146, y146, z146⟩, st146⟩ := X92.virtualBack hx (y := (⟨"com/example/rows_by_rule/rowsbyrule/query/FieldOperator", "takesSubquery", "()Z"⟩ : MethodName)) (z := (⟨"com/example/rows_by_rule/rowsbyrule/query/FieldOperator", "takesSubquery", "()Z"⟩ : MethodName)) hown (mvT hZ (hw _ (List.mem_of_getElem? (i := 41) rfl))) (mvT hZ (hw _ (List.mem_of_getElem? (i := 42) rfl))) (notFace_of_selects (args := #[]) (mvT hZ (hw _ (List.mem_of_getElem? (i := 44) rfl)))) (mvT hZ (hw _ (List.mem_of_getElem? (i := 44) rfl))) (mvT hZ (hw _ (List.mem_of_getElem? (i := 43) rfl))) (by decide) (backOf (W := 0) (rm1 l Z a0 hw [] a_EQ a_NE a_GT a_GE a_LT a_LE a_IN a_NOT_IN a_NULL a_LIKE a_NOT_LIKE a_START a_NOT_START a_END a_NOT_END a_CONTAIN a_NOT_CONTAIN a_RX a_COMPARISON a_LIST a_PATTERN a_NULL_TEST hS a_NOT_CONTAIN a_PATTERN (0 : Int32) h92 n0 O94 (hS.2.2.2.2.2.2.2.2.2.2.2.2.2.2.2.2.2.2.2.2.2.2.2.2.2.2.2.2.2.2.2.2.2.2.2.2.2.2.2.2.2.2.2.2.2.2.2.2.2.2.2.2.2.2.2.2.2.2.2.2.2.2.2.1.ext O94.2) ⟨fun q => absurd q (Fld.ne hS.2.2.2.2.2.2.2.2.2.2.2.2.2.2.2.2.2.2.2.2.2.2.2.2.2.2.2.2.2.2.2.2.2.2.2.2.2.2.2.2.2.2.2.2.2.2.2.2.2.2.2.2.2.2.2.1 hS.2.2.2.2.2.2.2.2.2.2.2.2.2.2.2.2.2.2.2.2.2.2.2.2.2.2.2.2.2.2.2.2.2.2.2.2.2.2.2.2.2.2.1 (fun q => absurd (Value.int.inj q) (by decide))), fun _ _ => rfl, fun _ q => absurd q (Fld.ne hS.2.2.2.2.2.2.2.2.2.2.2.2.2.2.2.2.2.2.2.2.2.2.2.2.2.2.2.2.2.2.2.2.2.2.2.2.2.2.2.2.2.2.2.2.2.2.2.2.2.2.2.2.2.2.2.1 hS.2.2.2.2.2.2.2.2.2.2.2.2.2.2.2.2.2.2.2.2.2.2.2.2.2.2.2.2.2.2.2.2.2.2.2.2.2.2.2.2.2.1 (fun q => absurd (Value.int.inj q) (by decide))), fun _ q => absurd q (Fld.ne hS.2.2.2.2.2.2.2.2.2.2.2.2.2.2.2.2.2.2.2.2.2.2.2.2.2.2.2.2.2.2.2.2.2.2.2.2.2.2.2.2.2.2.2.2.2.2.2.2.2.2.2.2.2.2.2.1 hS.2.2.2.2.2.2.2.2.2.2.2.2.2.2.2.2.2.2.2.2.2.2.2.2.2.2.2.2.2.2.2.2.2.2.2.2.2.2.2.2.2.1 (fun q => absurd (Value.int.inj q) (by decide)))⟩) hZ (hw _ (List.mem_of_getElem? (i := 45) rfl)) (hw _ (List.mem_of_getElem? (i := 3) rfl)) (by decide) (by decide)) q146a q146c (g := (mkF m 149 #[.val (.int p0), .val (.ref b1), .val (.int (16 : Int32)), .val (.int (0 : Int32))] [(.ref a_NOT_CONTAIN)])) rfl (by rw [hml]; rfl) (Steps.refl _) (argsL := []) (rest := []) (lenOf pd_0 rfl) rfl (by show 2 * 0 + _ ≤ _; exact Nat.le_of_eq rfl) (hb hby at_149) (fun _ _ => ⟨rfl, e92, (by decide : 1 + 0 ≤ _), (by decide : 18 + 0 ≤ _)⟩)
    dsimp only [Pt.U, Pt.locs, Pt.cells, Pt.slots] at X146 l146 y146 z146 st146 hQ146
    have X146 := own_to X146 l146 y146 z146
    obtain ⟨rfl, N146q, e146⟩ := hQ146
    have N146 := Fr.app N92 N146q
    obtain ⟨fs, hr, hrun, hended, hW, hsame⟩ := X146.leave (v := (some (.int (1 : Int32)))) (fun h => by rw [Bd.returns] at h; cases h)
    refine ⟨_, _, gp144 _ ?_, hrun, hended, _, _, rfl, ?_, ⟨_, rfl⟩, hW, hsame.mono (by decide) (by decide)⟩
    · refine XS.istoreN X92.here hx rfl (hb hby at_133) rfl (l' := #[.val (.int p0), .val (.ref b1), .val (.int (16 : Int32)), .unset]) rfl ?_
      show Steps p.tables e below (T92.setTop (mkF m 134 #[.val (.int p0), .val (.ref b1), .val (.int (16 : Int32)), .unset] [])) _
      refine XS.iloadN X92.here hx rfl (hb hby at_134) rfl ?_
      show Steps p.tables e below (T92.setTop (mkF m 135 #[.val (.int p0), .val (.ref b1), .val (.int (16 : Int32)), .unset] [(.int (16 : Int32))])) _
      refine XS.bipush X92.here hx rfl (hb hby at_135) ?_
      show Steps p.tables e below (T92.setTop (mkF m 137 #[.val (.int p0), .val (.ref b1), .val (.int (16 : Int32)), .unset] [(.int (8 : Int32)), (.int (16 : Int32))])) _
      refine XS.icmpYes X92.here hx rfl (pc0 := 137) (pc' := 144) rfl (hb hby at_137) rfl (flt (by decide : ¬ ((16 : Int32) < (8 : Int32)))).2.1 (by decide) (by decide) ?_
      show Steps p.tables e below (T92.setTop (mkF m 144 #[.val (.int p0), .val (.ref b1), .val (.int (16 : Int32)), .unset] [])) _
      refine XS.iconst X92.here hx rfl (hb hby at_144) ?_
      show Steps p.tables e below (T92.setTop (mkF m 145 #[.val (.int p0), .val (.ref b1), .val (.int (16 : Int32)), .unset] [(.int (0 : Int32))])) _
      refine XS.istoreN X92.here hx rfl (hb hby at_145) rfl (l' := #[.val (.int p0), .val (.ref b1), .val (.int (16 : Int32)), .val (.int (0 : Int32))]) rfl ?_
      show Steps p.tables e below (T92.setTop (mkF m 146 #[.val (.int p0), .val (.ref b1), .val (.int (16 : Int32)), .val (.int (0 : Int32))] [])) _
      refine XS.aloadN X92.here hx rfl (hb hby at_146) rfl rfl ?_
      show Steps p.tables e below (T92.setTop (mkF m 147 #[.val (.int p0), .val (.ref b1), .val (.int (16 : Int32)), .val (.int (0 : Int32))] [(.ref b1)])) _
      refine XS.iloadN X92.here hx rfl (hb hby at_147) rfl ?_
      show Steps p.tables e below (T92.setTop (mkF m 148 #[.val (.int p0), .val (.ref b1), .val (.int (16 : Int32)), .val (.int (0 : Int32))] [(.int (16 : Int32)), (.ref b1)])) _
      refine X92.aaload hx (j := (16 : Int32)) (v := (.ref a_NOT_CONTAIN)) (by rw [e92]; exact Ar145.1) (State.isArrayOf_alike hZ.alike Ar145.2.1) rfl Ar145.2.2 hin145 hat145 (g := (mkF m 148 #[.val (.int p0), .val (.ref b1), .val (.int (16 : Int32)), .val (.int (0 : Int32))] [(.int (16 : Int32)), (.ref b1)])) rfl rfl (hb hby at_148) _ ?_
      show Steps p.tables e below (T92.setTop (mkF m 149 #[.val (.int p0), .val (.ref b1), .val (.int (16 : Int32)), .val (.int (0 : Int32))] [(.ref a_NOT_CONTAIN)])) _
      refine st146.trans ?_
      show Steps p.tables e below (T146.setTop (mkF m 152 #[.val (.int p0), .val (.ref b1), .val (.int (16 : Int32)), .val (.int (0 : Int32))] [(.int (0 : Int32))])) _
      refine XS.iloadN X146.here hx rfl (hb hby at_152) rfl ?_
      show Steps p.tables e below (T146.setTop (mkF m 153 #[.val (.int p0), .val (.ref b1), .val (.int (16 : Int32)), .val (.int (0 : Int32))] [(.int (0 : Int32)), (.int (0 : Int32))])) _
      refine XS.icmpNo X146.here hx rfl (hb hby at_153) rfl (teq (by decide : (0 : Int32) = (0 : Int32))).2 ?_
      show Steps p.tables e below (T146.setTop (mkF m 156 #[.val (.int p0), .val (.ref b1), .val (.int (16 : Int32)), .val (.int (0 : Int32))] [])) _
      refine XS.iconst X146.here hx rfl (hb hby at_156) ?_
      show Steps p.tables e below (T146.setTop (mkF m 157 #[.val (.int p0), .val (.ref b1), .val (.int (16 : Int32)), .val (.int (0 : Int32))] [(.int (1 : Int32))])) _
      refine XS.goto X146.here hx rfl (pc0 := 157) (pc' := 161) rfl (hb hby at_157) (by decide) (by decide) ?_
      show Steps p.tables e below (T146.setTop (mkF m 161 #[.val (.int p0), .val (.ref b1), .val (.int (16 : Int32)), .val (.int (0 : Int32))] [(.int (1 : Int32))])) _
      exact retN X146 hx (t := .boolean) Bd.returns (by simp) (hb hby at_161) hr
    · show Q0 n0 _ T146.heap _
      rw [e146]
      exact ⟨rfl, N146⟩
  · have gp147 := gp95
    rw [hk] at gp147
    obtain ⟨c148, Ar148, q148, S148, M148, Hh148, G148⟩ := (id v93)
    have hin148 : ¬ ((17 : Int32) < 0 ∨ c148.slots.size ≤ ((17 : Int32)).toNatClampNeg) := inb_of S148 ⟨by decide, by decide⟩
    have hat148 : c148.slots[((17 : Int32)).toNatClampNeg]? = some (.ref a_RX) := Hh148.at hin148 rfl
    obtain ⟨cq149, kq149, q149a, q149b, q149c⟩ := isOf hZ e92 ((hS.2.2.2.2.2.2.2.2.2.2.2.2.2.2.2.2.2.2.2.2.2.2.2.2.2.2.2.2.2.2.2.2.2.2.1.ext O94.2))
    obtain ⟨_, _, ⟨T149, L149, k149, n149⟩, -, X149, ⟨Lc149, hQ149, l149, y149, z149⟩, st149⟩ := X92.virtualBack hx (y := (⟨"com/example/rows_by_rule/rowsbyrule/query/FieldOperator", "takesSubquery", "()Z"⟩ : MethodName)) (z := (⟨"com/example/rows_by_rule/rowsbyrule/query/FieldOperator", "takesSubquery", "()Z"⟩ : MethodName)) hown (mvT hZ (hw _ (List.mem_of_getElem? (i := 41) rfl))) (mvT hZ (hw _ (List.mem_of_getElem? (i := 42) rfl))) (notFace_of_selects (args := #[]) (mvT hZ (hw _ (List.mem_of_getElem? (i := 44) rfl)))) (mvT hZ (hw _ (List.mem_of_getElem? (i := 44) rfl))) (mvT hZ (hw _ (List.mem_of_getElem? (i := 43) rfl))) (by decide) (backOf (W := 0) (rm1 l Z a0 hw [] a_EQ a_NE a_GT a_GE a_LT a_LE a_IN a_NOT_IN a_NULL a_LIKE a_NOT_LIKE a_START a_NOT_START a_END a_NOT_END a_CONTAIN a_NOT_CONTAIN a_RX a_COMPARISON a_LIST a_PATTERN a_NULL_TEST hS a_RX a_COMPARISON (0 : Int32) h92 n0 O94 (hS.2.2.2.2.2.2.2.2.2.2.2.2.2.2.2.2.2.2.2.2.2.2.2.2.2.2.2.2.2.2.2.2.2.2.2.2.2.2.2.2.2.2.2.2.2.2.2.2.2.2.2.2.2.2.2.2.2.2.2.2.2.2.2.2.2.2.2.2.1.ext O94.2) ⟨fun q => absurd q (Fld.ne hS.2.2.2.2.2.2.2.2.2.2.2.2.2.2.2.2.2.2.2.2.2.2.2.2.2.2.2.2.2.2.2.2.2.2.2.2.2.2.2.2.2.1 hS.2.2.2.2.2.2.2.2.2.2.2.2.2.2.2.2.2.2.2.2.2.2.2.2.2.2.2.2.2.2.2.2.2.2.2.2.2.2.2.2.2.2.1 (fun q => absurd (Value.int.inj q) (by decide))), fun _ _ => rfl, fun _ _ _ => rfl, fun _ _ q => absurd rfl q⟩) hZ (hw _ (List.mem_of_getElem? (i := 45) rfl)) (hw _ (List.mem_of_getElem? (i := 3) rfl)) (by decide) (by decide)) q149a q149c (g := (mkF m 149 #[.val (.int p0), .val (.ref b1), .val (.int (17 : Int32)), .val (.int (0 : Int32))] [(.ref a_RX)])) rfl (by rw [hml]; rfl) (Steps.refl _) (argsL := []) (rest := []) (lenOf pd_0 rfl) rfl (by show 2 * 0 + _ ≤ _; exact Nat.le_of_eq rfl) (hb hby at_149) (fun _ _ => ⟨rfl, e92, (by decide : 1 + 0 ≤ _), (by decide : 18 + 0 ≤ _)⟩)
    dsimp only [Pt.U, Pt.locs, Pt.cells, Pt.slots] at X149 l149 y149 z149 st149 hQ149
    have X149 := own_to X149 l149 y149 z149
    obtain ⟨rfl, N149q, e149⟩ := hQ149
    have N149 := Fr.app N92 N149q
    obtain ⟨fs, hr, hrun, hended, hW, hsame⟩ := X149.leave (v := (some (.int (1 : Int32)))) (fun h => by rw [Bd.returns] at h; cases h)
    refine ⟨_, _, gp147 _ ?_, hrun, hended, _, _, rfl, ?_, ⟨_, rfl⟩, hW, hsame.mono (by decide) (by decide)⟩
    · refine XS.istoreN X92.here hx rfl (hb hby at_133) rfl (l' := #[.val (.int p0), .val (.ref b1), .val (.int (17 : Int32)), .unset]) rfl ?_
      show Steps p.tables e below (T92.setTop (mkF m 134 #[.val (.int p0), .val (.ref b1), .val (.int (17 : Int32)), .unset] [])) _
      refine XS.iloadN X92.here hx rfl (hb hby at_134) rfl ?_
      show Steps p.tables e below (T92.setTop (mkF m 135 #[.val (.int p0), .val (.ref b1), .val (.int (17 : Int32)), .unset] [(.int (17 : Int32))])) _
      refine XS.bipush X92.here hx rfl (hb hby at_135) ?_
      show Steps p.tables e below (T92.setTop (mkF m 137 #[.val (.int p0), .val (.ref b1), .val (.int (17 : Int32)), .unset] [(.int (8 : Int32)), (.int (17 : Int32))])) _
      refine XS.icmpYes X92.here hx rfl (pc0 := 137) (pc' := 144) rfl (hb hby at_137) rfl (flt (by decide : ¬ ((17 : Int32) < (8 : Int32)))).2.1 (by decide) (by decide) ?_
      show Steps p.tables e below (T92.setTop (mkF m 144 #[.val (.int p0), .val (.ref b1), .val (.int (17 : Int32)), .unset] [])) _
      refine XS.iconst X92.here hx rfl (hb hby at_144) ?_
      show Steps p.tables e below (T92.setTop (mkF m 145 #[.val (.int p0), .val (.ref b1), .val (.int (17 : Int32)), .unset] [(.int (0 : Int32))])) _
      refine XS.istoreN X92.here hx rfl (hb hby at_145) rfl (l' := #[.val (.int p0), .val (.ref b1), .val (.int (17 : Int32)), .val (.int (0 : Int32))]) rfl ?_
      show Steps p.tables e below (T92.setTop (mkF m 146 #[.val (.int p0), .val (.ref b1), .val (.int (17 : Int32)), .val (.int (0 : Int32))] [])) _
      refine XS.aloadN X92.here hx rfl (hb hby at_146) rfl rfl ?_
      show Steps p.tables e below (T92.setTop (mkF m 147 #[.val (.int p0), .val (.ref b1), .val (.int (17 : Int32)), .val (.int (0 : Int32))] [(.ref b1)])) _
      refine XS.iloadN X92.here hx rfl (hb hby at_147) rfl ?_
      show Steps p.tables e below (T92.setTop (mkF m 148 #[.val (.int p0), .val (.ref b1), .val (.int (17 : Int32)), .val (.int (0 : Int32))] [(.int (17 : Int32)), (.ref b1)])) _
      refine X92.aaload hx (j := (17 : Int32)) (v := (.ref a_RX)) (by rw [e92]; exact Ar148.1) (State.isArrayOf_alike hZ.alike Ar148.2.1) rfl Ar148.2.2 hin148 hat148 (g := (mkF m 148 #[.val (.int p0), .val (.ref b1), .val (.int (17 : Int32)), .val (.int (0 : Int32))] [(.int (17 : Int32)), (.ref b1)])) rfl rfl (hb hby at_148) _ ?_
      show Steps p.tables e below (T92.setTop (mkF m 149 #[.val (.int p0), .val (.ref b1), .val (.int (17 : Int32)), .val (.int (0 : Int32))] [(.ref a_RX)])) _
      refine st149.trans ?_
      show Steps p.tables e below (T149.setTop (mkF m 152 #[.val (.int p0), .val (.ref b1), .val (.int (17 : Int32)), .val (.int (0 : Int32))] [(.int (0 : Int32))])) _
      refine XS.iloadN X149.here hx rfl (hb hby at_152) rfl ?_
      show Steps p.tables e below (T149.setTop (mkF m 153 #[.val (.int p0), .val (.ref b1), .val (.int (17 : Int32)), .val (.int (0 : Int32))] [(.int (0 : Int32)), (.int (0 : Int32))])) _
      refine XS.icmpNo X149.here hx rfl (hb hby at_153) rfl (teq (by decide : (0 : Int32) = (0 : Int32))).2 ?_
      show Steps p.tables e below (T149.setTop (mkF m 156 #[.val (.int p0), .val (.ref b1), .val (.int (17 : Int32)), .val (.int (0 : Int32))] [])) _
      refine XS.iconst X149.here hx rfl (hb hby at_156) ?_
      show Steps p.tables e below (T149.setTop (mkF m 157 #[.val (.int p0), .val (.ref b1), .val (.int (17 : Int32)), .val (.int (0 : Int32))] [(.int (1 : Int32))])) _
      refine XS.goto X149.here hx rfl (pc0 := 157) (pc' := 161) rfl (hb hby at_157) (by decide) (by decide) ?_
      show Steps p.tables e below (T149.setTop (mkF m 161 #[.val (.int p0), .val (.ref b1), .val (.int (17 : Int32)), .val (.int (0 : Int32))] [(.int (1 : Int32))])) _
      exact retN X149 hx (t := .boolean) Bd.returns (by simp) (hb hby at_161) hr
    · show Q0 n0 _ T149.heap _
      rw [e149]
      exact ⟨rfl, N149⟩
set_option maxRecDepth 65536 in
set_option maxHeartbeats 40000000 in
theorem comes_1 {Post : Tables → Env → Array Value → State → Outcome → State → Prop} (hpost : ∀ tb e args s v u, (limb_1_1.after args s (.returned v) u = true ∧ limb_1_2.after args s (.returned v) u = true ∧ True) → FrameEnd s (.returned v) u (Jvm.fieldLocs frame_1_writes args s ++ Jvm.arrayLocs frame_1_arrays args s ++ Jvm.staticLocs frame_1_statics s) 16 128 → Post tb e args s (.returned v) u) :
    ArmFor flags0 classFile x code maxLocals ret World_1 tables_1 room_1 Calls_1 rest_1 Pre_1 Post := by
  intro l hfl _ _ p e ha hc hk s m args below hf hA hF happ hP
  obtain ⟨hcalls, hrest, hpre⟩ := hP
  obtain ⟨-, -, -, hnamed, -, -, -, hat⟩ := (Spec.applies_iff hf).mp happ
  obtain ⟨hg, hn⟩ := and_e (Cond.before_iff.mp (show (Jvm.Cond.and given_1 narrow_1).before args s = true from hpre))
  obtain ⟨g0, r0⟩ := and_e hg
  obtain ⟨w0, rfl⟩ : ∃ w0 : Value, args = #[w0] := by
    have hs : args.size = 1 := by simpa [Cond.value, given_1] using g0
    obtain ⟨L⟩ := args
    match L, hs with
    | [w0], _ => exact ⟨w0, rfl⟩
  have hw := fun d (hd : d ∈ tables_1) => atoms_spec (ws := Jvm.Cond.code x code maxLocals ret :: tables_1) hat d (List.mem_cons_of_mem _ hd)
  have hfit : Fit s := fun {y c} hc i hi => by
    obtain ⟨ha, rfl⟩ := Array.getElem?_eq_some_iff.mp hc
    have q := List.all_eq_true.mp ((Array.all_eq_true_iff_forall_mem.mp hF) _ (Array.getElem_mem ha)) i (List.mem_range.mpr hi)
    simpa [Array.getElem?_eq_getElem hi] using q
  obtain ⟨i0, ei0⟩ := is_v r0
  obtain rfl : w0 = (.int i0) := Option.some.inj ei0
  obtain ⟨n0, m0⟩ := and_e hn
  obtain ⟨n1, m1⟩ := and_e m0
  obtain ⟨n2, m2⟩ := and_e m1
  obtain ⟨n3, m3⟩ := and_e m2
  obtain ⟨n4, m4⟩ := and_e m3
  obtain ⟨n5, m5⟩ := and_e m4
  obtain ⟨n6, m6⟩ := and_e m5
  obtain ⟨n7, m7⟩ := and_e m6
  obtain ⟨n8, m8⟩ := and_e m7
  obtain ⟨n9, m9⟩ := and_e m8
  obtain ⟨n10, m10⟩ := and_e m9
  obtain ⟨n11, m11⟩ := and_e m10
  obtain ⟨n12, m12⟩ := and_e m11
  obtain ⟨n13, m13⟩ := and_e m12
  obtain ⟨n14, m14⟩ := and_e m13
  obtain ⟨n15, m15⟩ := and_e m14
  obtain ⟨n16, m16⟩ := and_e m15
  obtain ⟨n17, m17⟩ := and_e m16
  obtain ⟨n18, m18⟩ := and_e m17
  obtain ⟨n19, m19⟩ := and_e m18
  obtain ⟨n20, m20⟩ := and_e m19
  obtain ⟨n21, m21⟩ := and_e m20
  obtain ⟨n22, m22⟩ := and_e m21
  obtain ⟨n23, m23⟩ := and_e m22
  obtain ⟨n24, m24⟩ := and_e m23
  obtain ⟨n25, m25⟩ := and_e m24
  obtain ⟨n26, m26⟩ := and_e m25
  obtain ⟨n27, m27⟩ := and_e m26
  obtain ⟨n28, m28⟩ := and_e m27
  obtain ⟨n29, m29⟩ := and_e m28
  obtain ⟨n30, m30⟩ := and_e m29
  obtain ⟨n31, m31⟩ := and_e m30
  obtain ⟨n32, m32⟩ := and_e m31
  obtain ⟨n33, m33⟩ := and_e m32
  obtain ⟨n34, m34⟩ := and_e m33
  obtain ⟨n35, m35⟩ := and_e m34
  obtain ⟨n36, m36⟩ := and_e m35
  obtain ⟨n37, m37⟩ := and_e m36
  obtain ⟨n38, m38⟩ := and_e m37
  obtain ⟨n39, m39⟩ := and_e m38
  obtain ⟨n40, m40⟩ := and_e m39
  obtain ⟨n41, m41⟩ := and_e m40
  obtain ⟨n42, m42⟩ := and_e m41
  obtain ⟨n43, m43⟩ := and_e m42
  obtain ⟨n44, m44⟩ := and_e m43
  obtain ⟨n45, m45⟩ := and_e m44
  obtain ⟨n46, m46⟩ := and_e m45
  obtain ⟨n47, m47⟩ := and_e m46
  obtain ⟨n48, m48⟩ := and_e m47
  obtain ⟨n49, m49⟩ := and_e m48
  obtain ⟨a_EQ, ev_a_EQ⟩ := exa_v n0
  have E_a_EQ : Exa s s.heap a_EQ "com/example/rows_by_rule/rowsbyrule/query/FieldOperator" := Exa.start ev_a_EQ n0
  have S_a_EQ : Sta s s.heap "com/example/rows_by_rule/rowsbyrule/query/FieldOperator" "EQ" "Lcom/example/rows_by_rule/rowsbyrule/query/FieldOperator;" (.ref a_EQ) := Sta.start ev_a_EQ (Or.inr ⟨(hw _ (List.mem_of_getElem? (i := 3) rfl)), (hw _ (List.mem_of_getElem? (i := 4) rfl))⟩)
  obtain ⟨a_NE, ev_a_NE⟩ := exa_v n1
  have E_a_NE : Exa s s.heap a_NE "com/example/rows_by_rule/rowsbyrule/query/FieldOperator" := Exa.start ev_a_NE n1
  have S_a_NE : Sta s s.heap "com/example/rows_by_rule/rowsbyrule/query/FieldOperator" "NE" "Lcom/example/rows_by_rule/rowsbyrule/query/FieldOperator;" (.ref a_NE) := Sta.start ev_a_NE (Or.inr ⟨(hw _ (List.mem_of_getElem? (i := 3) rfl)), (hw _ (List.mem_of_getElem? (i := 7) rfl))⟩)
  obtain ⟨a_GT, ev_a_GT⟩ := exa_v n2
  have E_a_GT : Exa s s.heap a_GT "com/example/rows_by_rule/rowsbyrule/query/FieldOperator" := Exa.start ev_a_GT n2
  have S_a_GT : Sta s s.heap "com/example/rows_by_rule/rowsbyrule/query/FieldOperator" "GT" "Lcom/example/rows_by_rule/rowsbyrule/query/FieldOperator;" (.ref a_GT) := Sta.start ev_a_GT (Or.inr ⟨(hw _ (List.mem_of_getElem? (i := 3) rfl)), (hw _ (List.mem_of_getElem? (i := 9) rfl))⟩)
  obtain ⟨a_GE, ev_a_GE⟩ := exa_v n3
  have E_a_GE : Exa s s.heap a_GE "com/example/rows_by_rule/rowsbyrule/query/FieldOperator" := Exa.start ev_a_GE n3
  have S_a_GE : Sta s s.heap "com/example/rows_by_rule/rowsbyrule/query/FieldOperator" "GE" "Lcom/example/rows_by_rule/rowsbyrule/query/FieldOperator;" (.ref a_GE) := Sta.start ev_a_GE (Or.inr ⟨(hw _ (List.mem_of_getElem? (i := 3) rfl)), (hw _ (List.mem_of_getElem? (i := 11) rfl))⟩)
  obtain ⟨a_LT, ev_a_LT⟩ := exa_v n4
  have E_a_LT : Exa s s.heap a_LT "com/example/rows_by_rule/rowsbyrule/query/FieldOperator" := Exa.start ev_a_LT n4
  have S_a_LT : Sta s s.heap "com/example/rows_by_rule/rowsbyrule/query/FieldOperator" "LT" "Lcom/example/rows_by_rule/rowsbyrule/query/FieldOperator;" (.ref a_LT) := Sta.start ev_a_LT (Or.inr ⟨(hw _ (List.mem_of_getElem? (i := 3) rfl)), (hw _ (List.mem_of_getElem? (i := 13) rfl))⟩)
  obtain ⟨a_LE, ev_a_LE⟩ := exa_v n5
  have E_a_LE : Exa s s.heap a_LE "com/example/rows_by_rule/rowsbyrule/query/FieldOperator" := Exa.start ev_a_LE n5
  have S_a_LE : Sta s s.heap "com/example/rows_by_rule/rowsbyrule/query/FieldOperator" "LE" "Lcom/example/rows_by_rule/rowsbyrule/query/FieldOperator;" (.ref a_LE) := Sta.start ev_a_LE (Or.inr ⟨(hw _ (List.mem_of_getElem? (i := 3) rfl)), (hw _ (List.mem_of_getElem? (i := 15) rfl))⟩)
  obtain ⟨a_IN, ev_a_IN⟩ := exa_v n6
  have E_a_IN : Exa s s.heap a_IN "com/example/rows_by_rule/rowsbyrule/query/FieldOperator" := Exa.start ev_a_IN n6
  have S_a_IN : Sta s s.heap "com/example/rows_by_rule/rowsbyrule/query/FieldOperator" "IN" "Lcom/example/rows_by_rule/rowsbyrule/query/FieldOperator;" (.ref a_IN) := Sta.start ev_a_IN (Or.inr ⟨(hw _ (List.mem_of_getElem? (i := 3) rfl)), (hw _ (List.mem_of_getElem? (i := 17) rfl))⟩)
  obtain ⟨a_NOT_IN, ev_a_NOT_IN⟩ := exa_v n7
  have E_a_NOT_IN : Exa s s.heap a_NOT_IN "com/example/rows_by_rule/rowsbyrule/query/FieldOperator" := Exa.start ev_a_NOT_IN n7
  have S_a_NOT_IN : Sta s s.heap "com/example/rows_by_rule/rowsbyrule/query/FieldOperator" "NOT_IN" "Lcom/example/rows_by_rule/rowsbyrule/query/FieldOperator;" (.ref a_NOT_IN) := Sta.start ev_a_NOT_IN (Or.inr ⟨(hw _ (List.mem_of_getElem? (i := 3) rfl)), (hw _ (List.mem_of_getElem? (i := 19) rfl))⟩)
  obtain ⟨a_NULL, ev_a_NULL⟩ := exa_v n8
  have E_a_NULL : Exa s s.heap a_NULL "com/example/rows_by_rule/rowsbyrule/query/FieldOperator" := Exa.start ev_a_NULL n8
  have S_a_NULL : Sta s s.heap "com/example/rows_by_rule/rowsbyrule/query/FieldOperator" "NULL" "Lcom/example/rows_by_rule/rowsbyrule/query/FieldOperator;" (.ref a_NULL) := Sta.start ev_a_NULL (Or.inr ⟨(hw _ (List.mem_of_getElem? (i := 3) rfl)), (hw _ (List.mem_of_getElem? (i := 21) rfl))⟩)
  obtain ⟨a_LIKE, ev_a_LIKE⟩ := exa_v n9
  have E_a_LIKE : Exa s s.heap a_LIKE "com/example/rows_by_rule/rowsbyrule/query/FieldOperator" := Exa.start ev_a_LIKE n9
  have S_a_LIKE : Sta s s.heap "com/example/rows_by_rule/rowsbyrule/query/FieldOperator" "LIKE" "Lcom/example/rows_by_rule/rowsbyrule/query/FieldOperator;" (.ref a_LIKE) := Sta.start ev_a_LIKE (Or.inr ⟨(hw _ (List.mem_of_getElem? (i := 3) rfl)), (hw _ (List.mem_of_getElem? (i := 23) rfl))⟩)
  obtain ⟨a_NOT_LIKE, ev_a_NOT_LIKE⟩ := exa_v n10
  have E_a_NOT_LIKE : Exa s s.heap a_NOT_LIKE "com/example/rows_by_rule/rowsbyrule/query/FieldOperator" := Exa.start ev_a_NOT_LIKE n10
  have S_a_NOT_LIKE : Sta s s.heap "com/example/rows_by_rule/rowsbyrule/query/FieldOperator" "NOT_LIKE" "Lcom/example/rows_by_rule/rowsbyrule/query/FieldOperator;" (.ref a_NOT_LIKE) := Sta.start ev_a_NOT_LIKE (Or.inr ⟨(hw _ (List.mem_of_getElem? (i := 3) rfl)), (hw _ (List.mem_of_getElem? (i := 25) rfl))⟩)
  obtain ⟨a_START, ev_a_START⟩ := exa_v n11
  have E_a_START : Exa s s.heap a_START "com/example/rows_by_rule/rowsbyrule/query/FieldOperator" := Exa.start ev_a_START n11
  have S_a_START : Sta s s.heap "com/example/rows_by_rule/rowsbyrule/query/FieldOperator" "START" "Lcom/example/rows_by_rule/rowsbyrule/query/FieldOperator;" (.ref a_START) := Sta.start ev_a_START (Or.inr ⟨(hw _ (List.mem_of_getElem? (i := 3) rfl)), (hw _ (List.mem_of_getElem? (i := 27) rfl))⟩)
  obtain ⟨a_NOT_START, ev_a_NOT_START⟩ := exa_v n12
  have E_a_NOT_START : Exa s s.heap a_NOT_START "com/example/rows_by_rule/rowsbyrule/query/FieldOperator" := Exa.start ev_a_NOT_START n12
  have S_a_NOT_START : Sta s s.heap "com/example/rows_by_rule/rowsbyrule/query/FieldOperator" "NOT_START" "Lcom/example/rows_by_rule/rowsbyrule/query/FieldOperator;" (.ref a_NOT_START) := Sta.start ev_a_NOT_START (Or.inr ⟨(hw _ (List.mem_of_getElem? (i := 3) rfl)), (hw _ (List.mem_of_getElem? (i := 29) rfl))⟩)
  obtain ⟨a_END, ev_a_END⟩ := exa_v n13
  have E_a_END : Exa s s.heap a_END "com/example/rows_by_rule/rowsbyrule/query/FieldOperator" := Exa.start ev_a_END n13
  have S_a_END : Sta s s.heap "com/example/rows_by_rule/rowsbyrule/query/FieldOperator" "END" "Lcom/example/rows_by_rule/rowsbyrule/query/FieldOperator;" (.ref a_END) := Sta.start ev_a_END (Or.inr ⟨(hw _ (List.mem_of_getElem? (i := 3) rfl)), (hw _ (List.mem_of_getElem? (i := 31) rfl))⟩)
  obtain ⟨a_NOT_END, ev_a_NOT_END⟩ := exa_v n14
  have E_a_NOT_END : Exa s s.heap a_NOT_END "com/example/rows_by_rule/rowsbyrule/query/FieldOperator" := Exa.start ev_a_NOT_END n14
  have S_a_NOT_END : Sta s s.heap "com/example/rows_by_rule/rowsbyrule/query/FieldOperator" "NOT_END" "Lcom/example/rows_by_rule/rowsbyrule/query/FieldOperator;" (.ref a_NOT_END) := Sta.start ev_a_NOT_END (Or.inr ⟨(hw _ (List.mem_of_getElem? (i := 3) rfl)), (hw _ (List.mem_of_getElem? (i := 33) rfl))⟩)
  obtain ⟨a_CONTAIN, ev_a_CONTAIN⟩ := exa_v n15
  have E_a_CONTAIN : Exa s s.heap a_CONTAIN "com/example/rows_by_rule/rowsbyrule/query/FieldOperator" := Exa.start ev_a_CONTAIN n15
  have S_a_CONTAIN : Sta s s.heap "com/example/rows_by_rule/rowsbyrule/query/FieldOperator" "CONTAIN" "Lcom/example/rows_by_rule/rowsbyrule/query/FieldOperator;" (.ref a_CONTAIN) := Sta.start ev_a_CONTAIN (Or.inr ⟨(hw _ (List.mem_of_getElem? (i := 3) rfl)), (hw _ (List.mem_of_getElem? (i := 35) rfl))⟩)
  obtain ⟨a_NOT_CONTAIN, ev_a_NOT_CONTAIN⟩ := exa_v n16
  have E_a_NOT_CONTAIN : Exa s s.heap a_NOT_CONTAIN "com/example/rows_by_rule/rowsbyrule/query/FieldOperator" := Exa.start ev_a_NOT_CONTAIN n16
  have S_a_NOT_CONTAIN : Sta s s.heap "com/example/rows_by_rule/rowsbyrule/query/FieldOperator" "NOT_CONTAIN" "Lcom/example/rows_by_rule/rowsbyrule/query/FieldOperator;" (.ref a_NOT_CONTAIN) := Sta.start ev_a_NOT_CONTAIN (Or.inr ⟨(hw _ (List.mem_of_getElem? (i := 3) rfl)), (hw _ (List.mem_of_getElem? (i := 37) rfl))⟩)
  obtain ⟨a_RX, ev_a_RX⟩ := exa_v n17
  have E_a_RX : Exa s s.heap a_RX "com/example/rows_by_rule/rowsbyrule/query/FieldOperator" := Exa.start ev_a_RX n17
  have S_a_RX : Sta s s.heap "com/example/rows_by_rule/rowsbyrule/query/FieldOperator" "RX" "Lcom/example/rows_by_rule/rowsbyrule/query/FieldOperator;" (.ref a_RX) := Sta.start ev_a_RX (Or.inr ⟨(hw _ (List.mem_of_getElem? (i := 3) rfl)), (hw _ (List.mem_of_getElem? (i := 39) rfl))⟩)
  obtain ⟨a_COMPARISON, ev_a_COMPARISON⟩ := exa_v n18
  have E_a_COMPARISON : Exa s s.heap a_COMPARISON "com/example/rows_by_rule/rowsbyrule/query/FieldOperator$Shape" := Exa.start ev_a_COMPARISON n18
  have S_a_COMPARISON : Sta s s.heap "com/example/rows_by_rule/rowsbyrule/query/FieldOperator$Shape" "COMPARISON" "Lcom/example/rows_by_rule/rowsbyrule/query/FieldOperator$Shape;" (.ref a_COMPARISON) := Sta.start ev_a_COMPARISON (Or.inr ⟨(hw _ (List.mem_of_getElem? (i := 48) rfl)), (hw _ (List.mem_of_getElem? (i := 49) rfl))⟩)
  have F_shape_a_EQ : Fld s s.heap a_EQ "com/example/rows_by_rule/rowsbyrule/query/FieldOperator" "shape" "Lcom/example/rows_by_rule/rowsbyrule/query/FieldOperator$Shape;" (.ref a_COMPARISON) := own_fld_ref n19 ev_a_EQ ev_a_COMPARISON
  obtain ⟨a_LIST, ev_a_LIST⟩ := exa_v n20
  have E_a_LIST : Exa s s.heap a_LIST "com/example/rows_by_rule/rowsbyrule/query/FieldOperator$Shape" := Exa.start ev_a_LIST n20
  have S_a_LIST : Sta s s.heap "com/example/rows_by_rule/rowsbyrule/query/FieldOperator$Shape" "LIST" "Lcom/example/rows_by_rule/rowsbyrule/query/FieldOperator$Shape;" (.ref a_LIST) := Sta.start ev_a_LIST (Or.inr ⟨(hw _ (List.mem_of_getElem? (i := 48) rfl)), (hw _ (List.mem_of_getElem? (i := 51) rfl))⟩)
  have F_ordinal_a_COMPARISON : Fld s s.heap a_COMPARISON "java/lang/Enum" "ordinal" "I" (.int (0 : Int32)) := Fld.start ((fld_at ev_a_COMPARISON).symm.trans (Cond.eq_int (Cond.before_iff.mpr n21) rfl))
  have F_ordinal_a_LIST : Fld s s.heap a_LIST "java/lang/Enum" "ordinal" "I" (.int (1 : Int32)) := Fld.start ((fld_at ev_a_LIST).symm.trans (Cond.eq_int (Cond.before_iff.mpr n22) rfl))
  have F_ordinal_a_EQ : Fld s s.heap a_EQ "java/lang/Enum" "ordinal" "I" (.int (0 : Int32)) := Fld.start ((fld_at ev_a_EQ).symm.trans (Cond.eq_int (Cond.before_iff.mpr n23) rfl))
  have F_ordinal_a_RX : Fld s s.heap a_RX "java/lang/Enum" "ordinal" "I" (.int (17 : Int32)) := Fld.start ((fld_at ev_a_RX).symm.trans (Cond.eq_int (Cond.before_iff.mpr n24) rfl))
  have F_shape_a_GE : Fld s s.heap a_GE "com/example/rows_by_rule/rowsbyrule/query/FieldOperator" "shape" "Lcom/example/rows_by_rule/rowsbyrule/query/FieldOperator$Shape;" (.ref a_COMPARISON) := own_fld_ref n25 ev_a_GE ev_a_COMPARISON
  have F_ordinal_a_GE : Fld s s.heap a_GE "java/lang/Enum" "ordinal" "I" (.int (3 : Int32)) := Fld.start ((fld_at ev_a_GE).symm.trans (Cond.eq_int (Cond.before_iff.mpr n26) rfl))
  have F_shape_a_GT : Fld s s.heap a_GT "com/example/rows_by_rule/rowsbyrule/query/FieldOperator" "shape" "Lcom/example/rows_by_rule/rowsbyrule/query/FieldOperator$Shape;" (.ref a_COMPARISON) := own_fld_ref n27 ev_a_GT ev_a_COMPARISON
  have F_ordinal_a_GT : Fld s s.heap a_GT "java/lang/Enum" "ordinal" "I" (.int (2 : Int32)) := Fld.start ((fld_at ev_a_GT).symm.trans (Cond.eq_int (Cond.before_iff.mpr n28) rfl))
  have F_shape_a_NE : Fld s s.heap a_NE "com/example/rows_by_rule/rowsbyrule/query/FieldOperator" "shape" "Lcom/example/rows_by_rule/rowsbyrule/query/FieldOperator$Shape;" (.ref a_COMPARISON) := own_fld_ref n29 ev_a_NE ev_a_COMPARISON
  have F_ordinal_a_NE : Fld s s.heap a_NE "java/lang/Enum" "ordinal" "I" (.int (1 : Int32)) := Fld.start ((fld_at ev_a_NE).symm.trans (Cond.eq_int (Cond.before_iff.mpr n30) rfl))
  have F_shape_a_NOT_IN : Fld s s.heap a_NOT_IN "com/example/rows_by_rule/rowsbyrule/query/FieldOperator" "shape" "Lcom/example/rows_by_rule/rowsbyrule/query/FieldOperator$Shape;" (.ref a_LIST) := own_fld_ref n31 ev_a_NOT_IN ev_a_LIST
  obtain ⟨a_PATTERN, ev_a_PATTERN⟩ := exa_v n32
  have E_a_PATTERN : Exa s s.heap a_PATTERN "com/example/rows_by_rule/rowsbyrule/query/FieldOperator$Shape" := Exa.start ev_a_PATTERN n32
  have S_a_PATTERN : Sta s s.heap "com/example/rows_by_rule/rowsbyrule/query/FieldOperator$Shape" "PATTERN" "Lcom/example/rows_by_rule/rowsbyrule/query/FieldOperator$Shape;" (.ref a_PATTERN) := Sta.start ev_a_PATTERN (Or.inr ⟨(hw _ (List.mem_of_getElem? (i := 48) rfl)), (hw _ (List.mem_of_getElem? (i := 54) rfl))⟩)
  have F_shape_a_START : Fld s s.heap a_START "com/example/rows_by_rule/rowsbyrule/query/FieldOperator" "shape" "Lcom/example/rows_by_rule/rowsbyrule/query/FieldOperator$Shape;" (.ref a_PATTERN) := own_fld_ref n33 ev_a_START ev_a_PATTERN
  have F_ordinal_a_PATTERN : Fld s s.heap a_PATTERN "java/lang/Enum" "ordinal" "I" (.int (3 : Int32)) := Fld.start ((fld_at ev_a_PATTERN).symm.trans (Cond.eq_int (Cond.before_iff.mpr n34) rfl))
  have F_shape_a_LT : Fld s s.heap a_LT "com/example/rows_by_rule/rowsbyrule/query/FieldOperator" "shape" "Lcom/example/rows_by_rule/rowsbyrule/query/FieldOperator$Shape;" (.ref a_COMPARISON) := own_fld_ref n35 ev_a_LT ev_a_COMPARISON
  have F_ordinal_a_LT : Fld s s.heap a_LT "java/lang/Enum" "ordinal" "I" (.int (4 : Int32)) := Fld.start ((fld_at ev_a_LT).symm.trans (Cond.eq_int (Cond.before_iff.mpr n36) rfl))
  obtain ⟨a_NULL_TEST, ev_a_NULL_TEST⟩ := exa_v n37
  have E_a_NULL_TEST : Exa s s.heap a_NULL_TEST "com/example/rows_by_rule/rowsbyrule/query/FieldOperator$Shape" := Exa.start ev_a_NULL_TEST n37
  have S_a_NULL_TEST : Sta s s.heap "com/example/rows_by_rule/rowsbyrule/query/FieldOperator$Shape" "NULL_TEST" "Lcom/example/rows_by_rule/rowsbyrule/query/FieldOperator$Shape;" (.ref a_NULL_TEST) := Sta.start ev_a_NULL_TEST (Or.inr ⟨(hw _ (List.mem_of_getElem? (i := 48) rfl)), (hw _ (List.mem_of_getElem? (i := 55) rfl))⟩)
  have F_shape_a_NULL : Fld s s.heap a_NULL "com/example/rows_by_rule/rowsbyrule/query/FieldOperator" "shape" "Lcom/example/rows_by_rule/rowsbyrule/query/FieldOperator$Shape;" (.ref a_NULL_TEST) := own_fld_ref n38 ev_a_NULL ev_a_NULL_TEST
  have F_ordinal_a_NULL_TEST : Fld s s.heap a_NULL_TEST "java/lang/Enum" "ordinal" "I" (.int (2 : Int32)) := Fld.start ((fld_at ev_a_NULL_TEST).symm.trans (Cond.eq_int (Cond.before_iff.mpr n39) rfl))
  have F_shape_a_NOT_START : Fld s s.heap a_NOT_START "com/example/rows_by_rule/rowsbyrule/query/FieldOperator" "shape" "Lcom/example/rows_by_rule/rowsbyrule/query/FieldOperator$Shape;" (.ref a_PATTERN) := own_fld_ref n40 ev_a_NOT_START ev_a_PATTERN
  have F_shape_a_NOT_CONTAIN : Fld s s.heap a_NOT_CONTAIN "com/example/rows_by_rule/rowsbyrule/query/FieldOperator" "shape" "Lcom/example/rows_by_rule/rowsbyrule/query/FieldOperator$Shape;" (.ref a_PATTERN) := own_fld_ref n41 ev_a_NOT_CONTAIN ev_a_PATTERN
  have F_shape_a_CONTAIN : Fld s s.heap a_CONTAIN "com/example/rows_by_rule/rowsbyrule/query/FieldOperator" "shape" "Lcom/example/rows_by_rule/rowsbyrule/query/FieldOperator$Shape;" (.ref a_PATTERN) := own_fld_ref n42 ev_a_CONTAIN ev_a_PATTERN
  have F_shape_a_NOT_LIKE : Fld s s.heap a_NOT_LIKE "com/example/rows_by_rule/rowsbyrule/query/FieldOperator" "shape" "Lcom/example/rows_by_rule/rowsbyrule/query/FieldOperator$Shape;" (.ref a_PATTERN) := own_fld_ref n43 ev_a_NOT_LIKE ev_a_PATTERN
  have F_shape_a_END : Fld s s.heap a_END "com/example/rows_by_rule/rowsbyrule/query/FieldOperator" "shape" "Lcom/example/rows_by_rule/rowsbyrule/query/FieldOperator$Shape;" (.ref a_PATTERN) := own_fld_ref n44 ev_a_END ev_a_PATTERN
  have F_shape_a_IN : Fld s s.heap a_IN "com/example/rows_by_rule/rowsbyrule/query/FieldOperator" "shape" "Lcom/example/rows_by_rule/rowsbyrule/query/FieldOperator$Shape;" (.ref a_LIST) := own_fld_ref n45 ev_a_IN ev_a_LIST
  have F_shape_a_RX : Fld s s.heap a_RX "com/example/rows_by_rule/rowsbyrule/query/FieldOperator" "shape" "Lcom/example/rows_by_rule/rowsbyrule/query/FieldOperator$Shape;" (.ref a_COMPARISON) := own_fld_ref n46 ev_a_RX ev_a_COMPARISON
  have F_shape_a_NOT_END : Fld s s.heap a_NOT_END "com/example/rows_by_rule/rowsbyrule/query/FieldOperator" "shape" "Lcom/example/rows_by_rule/rowsbyrule/query/FieldOperator$Shape;" (.ref a_PATTERN) := own_fld_ref n47 ev_a_NOT_END ev_a_PATTERN
  have F_shape_a_LE : Fld s s.heap a_LE "com/example/rows_by_rule/rowsbyrule/query/FieldOperator" "shape" "Lcom/example/rows_by_rule/rowsbyrule/query/FieldOperator$Shape;" (.ref a_COMPARISON) := own_fld_ref n48 ev_a_LE ev_a_COMPARISON
  have F_ordinal_a_LE : Fld s s.heap a_LE "java/lang/Enum" "ordinal" "I" (.int (5 : Int32)) := Fld.start ((fld_at ev_a_LE).symm.trans (Cond.eq_int (Cond.before_iff.mpr n49) rfl))
  have F_shape_a_LIKE : Fld s s.heap a_LIKE "com/example/rows_by_rule/rowsbyrule/query/FieldOperator" "shape" "Lcom/example/rows_by_rule/rowsbyrule/query/FieldOperator$Shape;" (.ref a_PATTERN) := own_fld_ref m49 ev_a_LIKE ev_a_PATTERN
  obtain ⟨n, o, h1, h2, h3, _, L, rfl, ⟨rfl, N⟩, hq⟩ := rm0 l s _ hw tables_1 a_EQ a_NE a_GT a_GE a_LT a_LE a_IN a_NOT_IN a_NULL a_LIKE a_NOT_LIKE a_START a_NOT_START a_END a_NOT_END a_CONTAIN a_NOT_CONTAIN a_RX a_COMPARISON a_LIST a_PATTERN a_NULL_TEST ⟨E_a_EQ, S_a_EQ, E_a_NE, S_a_NE, E_a_GT, S_a_GT, E_a_GE, S_a_GE, E_a_LT, S_a_LT, E_a_LE, S_a_LE, E_a_IN, S_a_IN, E_a_NOT_IN, S_a_NOT_IN, E_a_NULL, S_a_NULL, E_a_LIKE, S_a_LIKE, E_a_NOT_LIKE, S_a_NOT_LIKE, E_a_START, S_a_START, E_a_NOT_START, S_a_NOT_START, E_a_END, S_a_END, E_a_NOT_END, S_a_NOT_END, E_a_CONTAIN, S_a_CONTAIN, E_a_NOT_CONTAIN, S_a_NOT_CONTAIN, E_a_RX, S_a_RX, E_a_COMPARISON, S_a_COMPARISON, F_shape_a_EQ, E_a_LIST, S_a_LIST, F_ordinal_a_COMPARISON, F_ordinal_a_LIST, F_ordinal_a_EQ, F_ordinal_a_RX, F_shape_a_GE, F_ordinal_a_GE, F_shape_a_GT, F_ordinal_a_GT, F_shape_a_NE, F_ordinal_a_NE, F_shape_a_NOT_IN, E_a_PATTERN, S_a_PATTERN, F_shape_a_START, F_ordinal_a_PATTERN, F_shape_a_LT, F_ordinal_a_LT, E_a_NULL_TEST, S_a_NULL_TEST, F_shape_a_NULL, F_ordinal_a_NULL_TEST, F_shape_a_NOT_START, F_shape_a_NOT_CONTAIN, F_shape_a_CONTAIN, F_shape_a_NOT_LIKE, F_shape_a_END, F_shape_a_IN, F_shape_a_RX, F_shape_a_NOT_END, F_shape_a_LE, F_ordinal_a_LE, F_shape_a_LIKE⟩ i0 s.heap s.heap.size (Old.start s) p e ha hc hk s m _ below hf ((Spec.applies_iff_loose hf).mp happ).1 ⟨rfl, State.Warmed39.refl s, rfl⟩ trivial
  refine ⟨n, _, h1, h2, h3, hpost _ _ _ _ _ _ ⟨Cond.after_iff.mpr rfl, Cond.after_iff.mpr (eq_i res_at (Term.int_eval (1)) rfl), trivial⟩ ⟨hq.1, hq.2.1, (hq.2.2.sift fun y hy => Or.inr (N y hy)).mono (by decide) (by decide)⟩⟩
theorem main_1_1 : Claimed_1_1 := comes_1 fun _ _ _ _ _ _ h hF => ⟨h.1, hF⟩
theorem main_1_2 : Claimed_1_2 := comes_1 fun _ _ _ _ _ _ h hF => ⟨h.2.1, hF⟩
end Jvm.Pilot.@@N@@
-- the witness, by the kit's program
namespace Jvm.Pilot.@@N@@
open Jvm Jvm.ClassFile Sem Op Lib Jvm.Free Jvm.Stand Jvm.Pilot.@@N@@.Jvm.D
/-! MADE BY PROGRAM (witnessworld.py) out of the Statement's table words and the real class files: 14 classes; the members and pool entries that the words name. The judged class is class 1, her method 1. -/
namespace start1
open Jvm.ClassFile
def u (s : String) : CpInfo := .utf8 (stringToUtf16 s)
/-- a pool by its gaps: so many unusable entries, then the entry; so many at the end -/
def gap : Nat → List CpInfo → List CpInfo
  | 0, r => r
  | n + 1, r => .unusable :: gap n r
def poolList (es : List (Nat × CpInfo)) (last : Nat) : List CpInfo := es.foldr (fun e r => gap e.1 (e.2 :: r)) (gap last [])
def pool (es : List (Nat × CpInfo)) (last : Nat) : Array CpInfo := ⟨poolList es last⟩
def fileOf (pool : Array CpInfo) (this : Nat) (attrs : Array Attribute := #[]) (ms : Array MethodInfo := #[]) (fl : Nat := 33) (sup : Nat := 0) (ifs : Array Nat := #[]) (fds : Array FieldInfo := #[]) : ClassFile where
  minorVersion := 0
  majorVersion := 65
  constantPool := pool
  accessFlags := fl
  thisClass := this
  superClass := sup
  interfaces := ifs
  fields := fds
  methods := ms
  attributes := attrs
def plain (name : String) (sup : Option ClassId) : Class where
  name := name
  kind := .ordinary
  loader := none
  accessFlags := 33
  super := sup
  interfaces := #[]
  cf := none
  fields := #[]
  methods := #[]
  instanceTypes := #[]
  staticTypes := #[]
  resolved := #[]
  callSites := []
  init := .initialized
  statics := none
  mirror := none

def pool0 : Array CpInfo := pool [(5, u "<init>"), (0, u "()V"), (1, .class_ 10), (1, u "java/lang/Object")] 113

def k0m0 : Method := { name := "<init>", desc := "()V", sig := { parameters := [], returnType := none }, accessFlags := 1, code := none }
/-- java/lang/Object -/
def k0 : Class := { plain "java/lang/Object" none with
  accessFlags := 33
  interfaces := #[]
  cf := some (fileOf pool0 8 #[] #[{ accessFlags := 1, nameIndex := 5, descriptorIndex := 6, attributes := #[] }] 33 0 #[] #[])
  fields := #[]
  methods := #[k0m0]
  instanceTypes := #[]
  staticTypes := #[]
  resolved := Array.replicate 124 none
  statics := none }

def pool1 : Array CpInfo := pool [(2, .class_ 4), (1, u "java/lang/Object"), (0, u "<init>"), (0, u "()V"), (0, .class_ 8), (0, u "com/example/rows_by_rule/rowsbyrule/query/FieldOperator"), (0, .fieldref 7 10), (0, .nameAndType 11 12), (0, u "EQ"), (0, u "Lcom/example/rows_by_rule/rowsbyrule/query/FieldOperator;"), (0, .fieldref 7 14), (0, .nameAndType 15 12), (0, u "NE"), (0, .fieldref 7 17), (0, .nameAndType 18 12), (0, u "GT"), (0, .fieldref 7 20), (0, .nameAndType 21 12), (0, u "GE"), (0, .fieldref 7 23), (0, .nameAndType 24 12), (0, u "LT"), (0, .fieldref 7 26), (0, .nameAndType 27 12), (0, u "LE"), (0, .fieldref 7 29), (0, .nameAndType 30 12), (0, u "IN"), (0, .fieldref 7 32), (0, .nameAndType 33 12), (0, u "NOT_IN"), (0, .fieldref 7 35), (0, .nameAndType 36 12), (0, u "NULL"), (0, .fieldref 7 38), (0, .nameAndType 39 12), (0, u "LIKE"), (0, .fieldref 7 41), (0, .nameAndType 42 12), (0, u "NOT_LIKE"), (0, .fieldref 7 44), (0, .nameAndType 45 12), (0, u "START"), (0, .fieldref 7 47), (0, .nameAndType 48 12), (0, u "NOT_START"), (0, .fieldref 7 50), (0, .nameAndType 51 12), (0, u "END"), (0, .fieldref 7 53), (0, .nameAndType 54 12), (0, u "NOT_END"), (0, .fieldref 7 56), (0, .nameAndType 57 12), (0, u "CONTAIN"), (0, .fieldref 7 59), (0, .nameAndType 60 12), (0, u "NOT_CONTAIN"), (0, .fieldref 7 62), (0, .nameAndType 63 12), (0, u "RX"), (0, .integer 2147483647), (0, .methodref 7 66), (0, .nameAndType 67 68), (0, u "takesSubquery"), (0, u "()Z"), (0, .class_ 70), (0, u "com/example/rows_by_rule/rowsbyrule/query/FieldOperatorTakesSubqueryPinLaw"), (2, u "law"), (0, u "(I)Z")] 5

def k1m0 : Method := { name := "<init>", desc := "()V", sig := { parameters := [], returnType := none }, accessFlags := 1, code := none }
def k1c1 : Code := { maxStack := 4, maxLocals := 4, code := code, exceptionTable := #[], attributes := #[] }
def k1m1 : Method := { name := "law", desc := "(I)Z", sig := { parameters := [.int], returnType := some .boolean }, accessFlags := 9, code := some k1c1 }
/-- com/example/rows_by_rule/rowsbyrule/query/FieldOperatorTakesSubqueryPinLaw -/
def k1 : Class := { plain "com/example/rows_by_rule/rowsbyrule/query/FieldOperatorTakesSubqueryPinLaw" (some 0) with
  accessFlags := 49
  interfaces := #[]
  cf := some (fileOf pool1 69 #[] #[{ accessFlags := 1, nameIndex := 5, descriptorIndex := 6, attributes := #[] }, { accessFlags := 9, nameIndex := 73, descriptorIndex := 74, attributes := #[] }] 49 2 #[] #[])
  fields := #[]
  methods := #[k1m0, k1m1]
  instanceTypes := #[]
  staticTypes := #[]
  resolved := Array.replicate 80 none
  statics := none }

def pool2 : Array CpInfo := pool [(1, .class_ 2), (0, u "java/lang/constant/Constable"), (0, .class_ 4), (0, u "java/lang/Object")] 6

/-- java/lang/constant/Constable -/
def k2 : Class := { plain "java/lang/constant/Constable" (some 0) with
  accessFlags := 1537
  interfaces := #[]
  cf := some (fileOf pool2 1 #[] #[] 1537 3 #[] #[])
  fields := #[]
  methods := #[]
  instanceTypes := #[]
  staticTypes := #[]
  resolved := Array.replicate 11 none
  statics := none }

def pool3 : Array CpInfo := pool [(1, .class_ 2), (0, u "java/lang/Comparable"), (0, .class_ 4), (0, u "java/lang/Object")] 7

/-- java/lang/Comparable -/
def k3 : Class := { plain "java/lang/Comparable" (some 0) with
  accessFlags := 1537
  interfaces := #[]
  cf := some (fileOf pool3 1 #[] #[] 1537 3 #[] #[])
  fields := #[]
  methods := #[]
  instanceTypes := #[]
  staticTypes := #[]
  resolved := Array.replicate 12 none
  statics := none }

def pool4 : Array CpInfo := pool [(1, .class_ 2), (0, u "java/io/Serializable"), (0, .class_ 4), (0, u "java/lang/Object")] 2

/-- java/io/Serializable -/
def k4 : Class := { plain "java/io/Serializable" (some 0) with
  accessFlags := 1537
  interfaces := #[]
  cf := some (fileOf pool4 1 #[] #[] 1537 3 #[] #[])
  fields := #[]
  methods := #[]
  instanceTypes := #[]
  staticTypes := #[]
  resolved := Array.replicate 7 none
  statics := none }

def pool5 : Array CpInfo := pool [(2, .class_ 4), (1, u "java/lang/Enum"), (0, u "name"), (0, u "Ljava/lang/String;"), (2, u "ordinal"), (0, u "I"), (1, .class_ 14), (1, u "java/lang/Object"), (4, u "hash"), (86, .class_ 108), (1, u "java/lang/Enum$EnumDesc"), (2, .class_ 112), (0, u "java/lang/constant/Constable"), (0, .class_ 114), (0, u "java/lang/Comparable"), (0, .class_ 116), (0, u "java/io/Serializable")] 87

/-- java/lang/Enum -/
def k5 : Class := { plain "java/lang/Enum" (some 0) with
  accessFlags := 1057
  interfaces := #[2, 3, 4]
  cf := some (fileOf pool5 2 #[.nestMembers #[106]] #[] 1057 12 #[111, 113, 115] #[{ accessFlags := 18, nameIndex := 5, descriptorIndex := 6, attributes := #[] }, { accessFlags := 18, nameIndex := 9, descriptorIndex := 10, attributes := #[] }, { accessFlags := 2, nameIndex := 19, descriptorIndex := 10, attributes := #[] }])
  fields := #[{ name := "name", type := (.object "java/lang/String"), accessFlags := 18, slot := 0, constantValue := 0 }, { name := "ordinal", type := .int, accessFlags := 18, slot := 1, constantValue := 0 }, { name := "hash", type := .int, accessFlags := 2, slot := 2, constantValue := 0 }]
  methods := #[]
  instanceTypes := #[(.object "java/lang/String"), .int, .int]
  staticTypes := #[]
  resolved := Array.replicate 204 none
  statics := none }

def pool6 : Array CpInfo := pool [(1, .class_ 2), (0, u "com/example/rows_by_rule/rowsbyrule/query/FieldOperator"), (2, u "EQ"), (0, u "Lcom/example/rows_by_rule/rowsbyrule/query/FieldOperator;"), (2, u "NE"), (2, u "GT"), (2, u "GE"), (2, u "LT"), (2, u "LE"), (2, u "IN"), (2, u "NOT_IN"), (2, u "NULL"), (2, u "LIKE"), (2, u "NOT_LIKE"), (2, u "START"), (2, u "NOT_START"), (2, u "END"), (2, u "NOT_END"), (2, u "CONTAIN"), (2, u "NOT_CONTAIN"), (0, .fieldref 1 56), (0, .nameAndType 57 6), (0, u "RX"), (2, u "$VALUES"), (0, u "[Lcom/example/rows_by_rule/rowsbyrule/query/FieldOperator;"), (6, .class_ 70), (1, u "java/lang/Enum"), (8, u "suffix"), (0, u "Ljava/lang/String;"), (0, .fieldref 1 82), (0, .nameAndType 83 84), (0, u "shape"), (0, u "Lcom/example/rows_by_rule/rowsbyrule/query/FieldOperator$Shape;"), (2, u "keyword"), (2, u "before"), (2, u "after"), (32, .fieldref 127 128), (0, .class_ 129), (0, .nameAndType 130 84), (0, u "com/example/rows_by_rule/rowsbyrule/query/FieldOperator$Shape"), (0, u "LIST"), (0, .fieldref 127 132), (0, .nameAndType 133 84), (0, u "COMPARISON"), (11, u "()Z"), (173, u "ESCAPE"), (0, u "C"), (9, u "takesSubquery")] 31

def k6c0 : Code := { maxStack := 2, maxLocals := 1, code := prog_27_method_7_code, exceptionTable := #[], attributes := #[] }
def k6m0 : Method := { name := "takesSubquery", desc := "()Z", sig := { parameters := [], returnType := some .boolean }, accessFlags := 0, code := some k6c0 }
/-- com/example/rows_by_rule/rowsbyrule/query/FieldOperator -/
def k6 : Class := { plain "com/example/rows_by_rule/rowsbyrule/query/FieldOperator" (some 5) with
  accessFlags := 16432
  interfaces := #[]
  cf := some (fileOf pool6 1 #[.nestMembers #[127]] #[{ accessFlags := 0, nameIndex := 330, descriptorIndex := 145, attributes := #[] }] 16432 68 #[] #[{ accessFlags := 16409, nameIndex := 5, descriptorIndex := 6, attributes := #[] }, { accessFlags := 16409, nameIndex := 9, descriptorIndex := 6, attributes := #[] }, { accessFlags := 16409, nameIndex := 12, descriptorIndex := 6, attributes := #[] }, { accessFlags := 16409, nameIndex := 15, descriptorIndex := 6, attributes := #[] }, { accessFlags := 16409, nameIndex := 18, descriptorIndex := 6, attributes := #[] }, { accessFlags := 16409, nameIndex := 21, descriptorIndex := 6, attributes := #[] }, { accessFlags := 16409, nameIndex := 24, descriptorIndex := 6, attributes := #[] }, { accessFlags := 16409, nameIndex := 27, descriptorIndex := 6, attributes := #[] }, { accessFlags := 16409, nameIndex := 30, descriptorIndex := 6, attributes := #[] }, { accessFlags := 16409, nameIndex := 33, descriptorIndex := 6, attributes := #[] }, { accessFlags := 16409, nameIndex := 36, descriptorIndex := 6, attributes := #[] }, { accessFlags := 16409, nameIndex := 39, descriptorIndex := 6, attributes := #[] }, { accessFlags := 16409, nameIndex := 42, descriptorIndex := 6, attributes := #[] }, { accessFlags := 16409, nameIndex := 45, descriptorIndex := 6, attributes := #[] }, { accessFlags := 16409, nameIndex := 48, descriptorIndex := 6, attributes := #[] }, { accessFlags := 16409, nameIndex := 51, descriptorIndex := 6, attributes := #[] }, { accessFlags := 16409, nameIndex := 54, descriptorIndex := 6, attributes := #[] }, { accessFlags := 16409, nameIndex := 57, descriptorIndex := 6, attributes := #[] }, { accessFlags := 26, nameIndex := 319, descriptorIndex := 320, attributes := #[] }, { accessFlags := 18, nameIndex := 79, descriptorIndex := 80, attributes := #[] }, { accessFlags := 18, nameIndex := 83, descriptorIndex := 84, attributes := #[] }, { accessFlags := 18, nameIndex := 87, descriptorIndex := 80, attributes := #[] }, { accessFlags := 18, nameIndex := 90, descriptorIndex := 80, attributes := #[] }, { accessFlags := 18, nameIndex := 93, descriptorIndex := 80, attributes := #[] }, { accessFlags := 4122, nameIndex := 60, descriptorIndex := 61, attributes := #[] }])
  fields := #[{ name := "EQ", type := (.object "com/example/rows_by_rule/rowsbyrule/query/FieldOperator"), accessFlags := 16409, slot := 0, constantValue := 0 }, { name := "NE", type := (.object "com/example/rows_by_rule/rowsbyrule/query/FieldOperator"), accessFlags := 16409, slot := 1, constantValue := 0 }, { name := "GT", type := (.object "com/example/rows_by_rule/rowsbyrule/query/FieldOperator"), accessFlags := 16409, slot := 2, constantValue := 0 }, { name := "GE", type := (.object "com/example/rows_by_rule/rowsbyrule/query/FieldOperator"), accessFlags := 16409, slot := 3, constantValue := 0 }, { name := "LT", type := (.object "com/example/rows_by_rule/rowsbyrule/query/FieldOperator"), accessFlags := 16409, slot := 4, constantValue := 0 }, { name := "LE", type := (.object "com/example/rows_by_rule/rowsbyrule/query/FieldOperator"), accessFlags := 16409, slot := 5, constantValue := 0 }, { name := "IN", type := (.object "com/example/rows_by_rule/rowsbyrule/query/FieldOperator"), accessFlags := 16409, slot := 6, constantValue := 0 }, { name := "NOT_IN", type := (.object "com/example/rows_by_rule/rowsbyrule/query/FieldOperator"), accessFlags := 16409, slot := 7, constantValue := 0 }, { name := "NULL", type := (.object "com/example/rows_by_rule/rowsbyrule/query/FieldOperator"), accessFlags := 16409, slot := 8, constantValue := 0 }, { name := "LIKE", type := (.object "com/example/rows_by_rule/rowsbyrule/query/FieldOperator"), accessFlags := 16409, slot := 9, constantValue := 0 }, { name := "NOT_LIKE", type := (.object "com/example/rows_by_rule/rowsbyrule/query/FieldOperator"), accessFlags := 16409, slot := 10, constantValue := 0 }, { name := "START", type := (.object "com/example/rows_by_rule/rowsbyrule/query/FieldOperator"), accessFlags := 16409, slot := 11, constantValue := 0 }, { name := "NOT_START", type := (.object "com/example/rows_by_rule/rowsbyrule/query/FieldOperator"), accessFlags := 16409, slot := 12, constantValue := 0 }, { name := "END", type := (.object "com/example/rows_by_rule/rowsbyrule/query/FieldOperator"), accessFlags := 16409, slot := 13, constantValue := 0 }, { name := "NOT_END", type := (.object "com/example/rows_by_rule/rowsbyrule/query/FieldOperator"), accessFlags := 16409, slot := 14, constantValue := 0 }, { name := "CONTAIN", type := (.object "com/example/rows_by_rule/rowsbyrule/query/FieldOperator"), accessFlags := 16409, slot := 15, constantValue := 0 }, { name := "NOT_CONTAIN", type := (.object "com/example/rows_by_rule/rowsbyrule/query/FieldOperator"), accessFlags := 16409, slot := 16, constantValue := 0 }, { name := "RX", type := (.object "com/example/rows_by_rule/rowsbyrule/query/FieldOperator"), accessFlags := 16409, slot := 17, constantValue := 0 }, { name := "ESCAPE", type := .char, accessFlags := 26, slot := 18, constantValue := 0 }, { name := "suffix", type := (.object "java/lang/String"), accessFlags := 18, slot := 3, constantValue := 0 }, { name := "shape", type := (.object "com/example/rows_by_rule/rowsbyrule/query/FieldOperator$Shape"), accessFlags := 18, slot := 4, constantValue := 0 }, { name := "keyword", type := (.object "java/lang/String"), accessFlags := 18, slot := 5, constantValue := 0 }, { name := "before", type := (.object "java/lang/String"), accessFlags := 18, slot := 6, constantValue := 0 }, { name := "after", type := (.object "java/lang/String"), accessFlags := 18, slot := 7, constantValue := 0 }, { name := "$VALUES", type := (.array (.object "com/example/rows_by_rule/rowsbyrule/query/FieldOperator")), accessFlags := 4122, slot := 19, constantValue := 0 }]
  methods := #[k6m0]
  instanceTypes := #[(.object "java/lang/String"), .int, .int, (.object "java/lang/String"), (.object "com/example/rows_by_rule/rowsbyrule/query/FieldOperator$Shape"), (.object "java/lang/String"), (.object "java/lang/String"), (.object "java/lang/String")]
  staticTypes := #[(.object "com/example/rows_by_rule/rowsbyrule/query/FieldOperator"), (.object "com/example/rows_by_rule/rowsbyrule/query/FieldOperator"), (.object "com/example/rows_by_rule/rowsbyrule/query/FieldOperator"), (.object "com/example/rows_by_rule/rowsbyrule/query/FieldOperator"), (.object "com/example/rows_by_rule/rowsbyrule/query/FieldOperator"), (.object "com/example/rows_by_rule/rowsbyrule/query/FieldOperator"), (.object "com/example/rows_by_rule/rowsbyrule/query/FieldOperator"), (.object "com/example/rows_by_rule/rowsbyrule/query/FieldOperator"), (.object "com/example/rows_by_rule/rowsbyrule/query/FieldOperator"), (.object "com/example/rows_by_rule/rowsbyrule/query/FieldOperator"), (.object "com/example/rows_by_rule/rowsbyrule/query/FieldOperator"), (.object "com/example/rows_by_rule/rowsbyrule/query/FieldOperator"), (.object "com/example/rows_by_rule/rowsbyrule/query/FieldOperator"), (.object "com/example/rows_by_rule/rowsbyrule/query/FieldOperator"), (.object "com/example/rows_by_rule/rowsbyrule/query/FieldOperator"), (.object "com/example/rows_by_rule/rowsbyrule/query/FieldOperator"), (.object "com/example/rows_by_rule/rowsbyrule/query/FieldOperator"), (.object "com/example/rows_by_rule/rowsbyrule/query/FieldOperator"), .char, (.array (.object "com/example/rows_by_rule/rowsbyrule/query/FieldOperator"))]
  resolved := Array.replicate 362 none
  statics := some 0 }

def pool7 : Array CpInfo := pool [(1, .class_ 2), (0, u "com/example/rows_by_rule/rowsbyrule/query/FieldOperator$Shape"), (2, u "COMPARISON"), (0, u "Lcom/example/rows_by_rule/rowsbyrule/query/FieldOperator$Shape;"), (2, u "LIST"), (2, u "NULL_TEST"), (2, u "PATTERN"), (2, u "$VALUES"), (0, u "[Lcom/example/rows_by_rule/rowsbyrule/query/FieldOperator$Shape;"), (6, .class_ 28), (1, u "java/lang/Enum"), (27, .class_ 57), (0, u "com/example/rows_by_rule/rowsbyrule/query/FieldOperator")] 2

/-- com/example/rows_by_rule/rowsbyrule/query/FieldOperator$Shape -/
def k7 : Class := { plain "com/example/rows_by_rule/rowsbyrule/query/FieldOperator$Shape" (some 5) with
  accessFlags := 16432
  interfaces := #[]
  cf := some (fileOf pool7 1 #[.nestHost 56] #[] 16432 26 #[] #[{ accessFlags := 16409, nameIndex := 5, descriptorIndex := 6, attributes := #[] }, { accessFlags := 16409, nameIndex := 9, descriptorIndex := 6, attributes := #[] }, { accessFlags := 16409, nameIndex := 12, descriptorIndex := 6, attributes := #[] }, { accessFlags := 16409, nameIndex := 15, descriptorIndex := 6, attributes := #[] }, { accessFlags := 4122, nameIndex := 18, descriptorIndex := 19, attributes := #[] }])
  fields := #[{ name := "COMPARISON", type := (.object "com/example/rows_by_rule/rowsbyrule/query/FieldOperator$Shape"), accessFlags := 16409, slot := 0, constantValue := 0 }, { name := "LIST", type := (.object "com/example/rows_by_rule/rowsbyrule/query/FieldOperator$Shape"), accessFlags := 16409, slot := 1, constantValue := 0 }, { name := "NULL_TEST", type := (.object "com/example/rows_by_rule/rowsbyrule/query/FieldOperator$Shape"), accessFlags := 16409, slot := 2, constantValue := 0 }, { name := "PATTERN", type := (.object "com/example/rows_by_rule/rowsbyrule/query/FieldOperator$Shape"), accessFlags := 16409, slot := 3, constantValue := 0 }, { name := "$VALUES", type := (.array (.object "com/example/rows_by_rule/rowsbyrule/query/FieldOperator$Shape")), accessFlags := 4122, slot := 4, constantValue := 0 }]
  methods := #[]
  instanceTypes := #[(.object "java/lang/String"), .int, .int]
  staticTypes := #[(.object "com/example/rows_by_rule/rowsbyrule/query/FieldOperator$Shape"), (.object "com/example/rows_by_rule/rowsbyrule/query/FieldOperator$Shape"), (.object "com/example/rows_by_rule/rowsbyrule/query/FieldOperator$Shape"), (.object "com/example/rows_by_rule/rowsbyrule/query/FieldOperator$Shape"), (.array (.object "com/example/rows_by_rule/rowsbyrule/query/FieldOperator$Shape"))]
  resolved := Array.replicate 60 none
  statics := some 1 }

def pool8 : Array CpInfo := pool [(1, u "java/lang/Cloneable"), (0, .class_ 1), (0, u "java/lang/Object"), (0, .class_ 3)] 3

/-- java/lang/Cloneable -/
def k8 : Class := { plain "java/lang/Cloneable" (some 0) with
  accessFlags := 1537
  interfaces := #[]
  cf := some (fileOf pool8 2 #[] #[] 1537 4 #[] #[])
  fields := #[]
  methods := #[]
  instanceTypes := #[]
  staticTypes := #[]
  resolved := Array.replicate 8 none
  statics := none }

/-- the primitive byte -/
def k9 : Class := { plain "byte" none with kind := .primitive 'B', accessFlags := 0x411 }
/-- [B -/
def k10 : Class := { plain "[B" (some 0) with kind := .array 9 .byte, interfaces := #[8, 4], accessFlags := 1041 }

/-- the primitive int -/
def k11 : Class := { plain "int" none with kind := .primitive 'I', accessFlags := 0x411 }
/-- [I -/
def k12 : Class := { plain "[I" (some 0) with kind := .array 11 .int, interfaces := #[8, 4], accessFlags := 1041 }

/-- [Lcom/example/rows_by_rule/rowsbyrule/query/FieldOperator; -/
def k13 : Class := { plain "[Lcom/example/rows_by_rule/rowsbyrule/query/FieldOperator;" (some 0) with kind := .array 6 (.object "com/example/rows_by_rule/rowsbyrule/query/FieldOperator"), interfaces := #[8, 4], accessFlags := 1041 }

def heap : Heap := #[{ cls := 6, slots := #[.ref 2, .ref 3, .ref 4, .ref 5, .ref 6, .ref 7, .ref 8, .ref 9, .ref 10, .ref 11, .ref 12, .ref 13, .ref 14, .ref 15, .ref 16, .ref 17, .ref 18, .ref 19, .int 0, .null], vm := .statics 6 },
  { cls := 7, slots := #[.ref 20, .ref 21, .ref 23, .ref 22, .null], vm := .statics 7 },
  { cls := 6, slots := #[.null, .int 0, .int 0, .null, .ref 20, .null, .null, .null], vm := .none },
  { cls := 6, slots := #[.null, .int 1, .int 0, .null, .ref 20, .null, .null, .null], vm := .none },
  { cls := 6, slots := #[.null, .int 2, .int 0, .null, .ref 20, .null, .null, .null], vm := .none },
  { cls := 6, slots := #[.null, .int 3, .int 0, .null, .ref 20, .null, .null, .null], vm := .none },
  { cls := 6, slots := #[.null, .int 4, .int 0, .null, .ref 20, .null, .null, .null], vm := .none },
  { cls := 6, slots := #[.null, .int 5, .int 0, .null, .ref 20, .null, .null, .null], vm := .none },
  { cls := 6, slots := #[.null, .int 0, .int 0, .null, .ref 21, .null, .null, .null], vm := .none },
  { cls := 6, slots := #[.null, .int 0, .int 0, .null, .ref 21, .null, .null, .null], vm := .none },
  { cls := 6, slots := #[.null, .int 0, .int 0, .null, .ref 23, .null, .null, .null], vm := .none },
  { cls := 6, slots := #[.null, .int 0, .int 0, .null, .ref 22, .null, .null, .null], vm := .none },
  { cls := 6, slots := #[.null, .int 0, .int 0, .null, .ref 22, .null, .null, .null], vm := .none },
  { cls := 6, slots := #[.null, .int 0, .int 0, .null, .ref 22, .null, .null, .null], vm := .none },
  { cls := 6, slots := #[.null, .int 0, .int 0, .null, .ref 22, .null, .null, .null], vm := .none },
  { cls := 6, slots := #[.null, .int 0, .int 0, .null, .ref 22, .null, .null, .null], vm := .none },
  { cls := 6, slots := #[.null, .int 0, .int 0, .null, .ref 22, .null, .null, .null], vm := .none },
  { cls := 6, slots := #[.null, .int 0, .int 0, .null, .ref 22, .null, .null, .null], vm := .none },
  { cls := 6, slots := #[.null, .int 0, .int 0, .null, .ref 22, .null, .null, .null], vm := .none },
  { cls := 6, slots := #[.null, .int 17, .int 0, .null, .ref 20, .null, .null, .null], vm := .none },
  { cls := 7, slots := #[.null, .int 0, .int 0], vm := .none },
  { cls := 7, slots := #[.null, .int 1, .int 0], vm := .none },
  { cls := 7, slots := #[.null, .int 3, .int 0], vm := .none },
  { cls := 7, slots := #[.null, .int 2, .int 0], vm := .none }]
def classes : Array Class := #[k0, k1, k2, k3, k4, k5, k6, k7, k8, k9, k10, k11, k12, k13]
def interned : List (Array UInt16 × Addr) := []
def slotsUsed : Nat := 181
def theMethod : MethodId := ⟨1, 1⟩
def args0 : Array Value := #[.int 5]
def aboutOver (below : List Frame) : State where
  vm := { classes := classes, interned := interned.toArray }
  heap := heap
  slotsUsed := slotsUsed
  threads := #[{ frames := .invoking theMethod args0 :: below }]
def below0 : List Frame := [.native { method := ⟨0, 0⟩, args := #[] }]
def about1 : State := aboutOver below0
def p0 : Program := .bare "" "" ""
def e0 : Env := launch0.env 0 0 0
theorem w_frames : about1.frames = Frame.invoking theMethod args0 :: below0 := rfl
set_option maxRecDepth 65536 in
theorem w_args : argsFit about1.vm theMethod args0 = true := by decide +kernel
set_option maxRecDepth 65536 in
theorem w_heap : heapFits about1 = true := by decide +kernel
set_option maxRecDepth 65536 in
theorem w_runnable : about1.curStatus? = some .runnable := by decide +kernel
set_option maxRecDepth 65536 in
theorem w_alone : about1.alone = true := by decide +kernel
set_option maxRecDepth 65536 in
theorem w_named : about1.methodNamed? x = some theMethod := by decide +kernel
set_option maxRecDepth 65536 in
theorem w_hears : about1.hears theMethod below0 = true := by decide +kernel
set_option maxRecDepth 65536 in
theorem w_ripe : about1.ripe theMethod args0 below0 = true := by decide +kernel
theorem w_running : about1.status = .running := rfl
set_option maxRecDepth 65536 in
theorem w_room : about1.hasRoom e0.platform room_1 = true :=
  launch0.hasRoom_least _ room_1 (by decide +kernel) (by decide +kernel) (by decide +kernel) (by decide +kernel) (by decide +kernel) (by decide +kernel)
theorem allAtoms_all (ts : List Jvm.Cond) (a : Array Jvm.Value) (st : Jvm.State) : (allAtoms ts).before a st = ts.all (fun c => c.before a st) := by
  induction ts with
  | nil => rfl
  | cons c t ih =>
    show (Jvm.Cond.and c (allAtoms t)).before a st = _
    rw [Jvm.Cond.before_and, ih, List.all_cons]
def words1 : List Jvm.Cond := Jvm.Cond.code x code maxLocals ret :: tables_1
/-- a 'code' word, met by the world's own term for the bytes: nothing is compared byte by byte -/
theorem code_word {y : MethodName} {bytes : ByteArray} {mx : Nat} {rt : Option FieldType} {a : Array Value} {s : State} {m : MethodId} {meth : Method} {c : Code} (h1 : s.methodNamed? y = some m) (h2 : s.vm.method? m = some meth) (h3 : meth.code = some c) (h4 : c.code = bytes)
    (h5 : (c.maxLocals == mx && c.exceptionTable.isEmpty && decide (c.maxStack ≤ mostOperands) && decide (meth.sig.returnType = rt) && !meth.locks && decide (parseMethodDescriptor y.desc = some meth.sig)) = true) : (Jvm.Cond.code y bytes mx rt).before a s = true := by
  simp only [Bool.and_eq_true, beq_iff_eq, Bool.not_eq_true', decide_eq_true_eq] at h5
  obtain ⟨⟨⟨⟨⟨g1, g2⟩, g3⟩, g4⟩, g5⟩, g6⟩ := h5
  simp [Cond.before, Cond.holds, Cond.value, h1, h2, h3, h4, g1, g2, g3, g4, g5, g6]
def isCode : Jvm.Cond → Bool
  | .code _ _ _ _ => true
  | _ => false
theorem all_split {L : List Jvm.Cond} {P : Jvm.Cond → Bool} (h1 : L.all (fun c => isCode c || P c) = true) (h2 : ∀ c ∈ L.filter isCode, P c = true) : L.all P = true := by
  refine List.all_eq_true.mpr fun c hc => ?_
  have h := List.all_eq_true.mp h1 c hc
  rcases Bool.eq_false_or_eq_true (isCode c) with hi | hi
  · exact h2 c (List.mem_filter.mpr ⟨hc, hi⟩)
  · simpa [hi] using h
set_option maxRecDepth 65536 in
theorem w_c0 : (Jvm.Cond.code x code maxLocals ret).before args0 about1 = true := code_word (m := ⟨1, 1⟩) (meth := k1m1) (c := k1c1) (by decide +kernel) rfl rfl rfl (by decide +kernel)
set_option maxRecDepth 65536 in
theorem w_c1 : (Jvm.Cond.code ({ cls := "com/example/rows_by_rule/rowsbyrule/query/FieldOperator", name := "takesSubquery", desc := "()Z" } : Jvm.MethodName) prog_27_method_7_code (1 : Nat) (Option.some Jvm.ClassFile.FieldType.boolean)).before args0 about1 = true := code_word (m := ⟨6, 0⟩) (meth := k6m0) (c := k6c0) (by decide +kernel) rfl rfl rfl (by decide +kernel)
def codes1 : List Jvm.Cond := [Jvm.Cond.code x code maxLocals ret, Jvm.Cond.code ({ cls := "com/example/rows_by_rule/rowsbyrule/query/FieldOperator", name := "takesSubquery", desc := "()Z" } : Jvm.MethodName) prog_27_method_7_code (1 : Nat) (Option.some Jvm.ClassFile.FieldType.boolean)]
set_option maxRecDepth 65536 in
theorem codes_eq : words1.filter isCode = codes1 := rfl
theorem w_codes : ∀ c ∈ words1.filter isCode, c.before args0 about1 = true := by
  rw [codes_eq]
  intro c hc
  simp only [codes1, List.mem_cons, List.not_mem_nil, or_false] at hc
  rcases hc with rfl | rfl
  · exact w_c0
  · exact w_c1
set_option maxRecDepth 65536 in
theorem w_t1 : (words1.take 24).all (fun c => isCode c || c.before args0 about1) = true := by decide +kernel
set_option maxRecDepth 65536 in
theorem w_t2 : ((words1.drop 24).take 24).all (fun c => isCode c || c.before args0 about1) = true := by decide +kernel
set_option maxRecDepth 65536 in
theorem w_t3 : ((words1.drop 24).drop 24).all (fun c => isCode c || c.before args0 about1) = true := by decide +kernel
theorem w_tables : (allAtoms (Jvm.Cond.code x code maxLocals ret :: tables_1)).before args0 about1 = true := by
  rw [allAtoms_all]
  show words1.all (fun c => c.before args0 about1) = true
  refine all_split ?_ w_codes
  rw [← List.take_append_drop 24 words1, List.all_append, w_t1, ← List.take_append_drop 24 (words1.drop 24), List.all_append, w_t2, w_t3]
  rfl
set_option maxRecDepth 65536 in
theorem w_case : (Jvm.Cond.and given_1 narrow_1).before args0 about1 = true := by decide +kernel
theorem w_applies : (headSpec (Jvm.Cond.code x code maxLocals ret :: tables_1) room_1).applies x e0.platform about1 = true :=
  (Spec.applies_iff w_frames).mpr ⟨w_running, w_runnable, w_alone, w_named, w_hears, w_ripe, w_room, w_tables⟩
theorem atStart : AtStart classFile x code maxLocals ret World_1 tables_1 room_1 Calls_1 rest_1 Pre_1 launch0 p0 e0 about1 theMethod args0 below0 :=
  ⟨lists_1, trivial, launch0.admits_env _ _ _, launch0.least_env, fairChoices_fair.cas, fairChoices_fair.clock, w_frames, w_args, w_heap, w_applies, trivial, trivial, w_case⟩
end start1
theorem witness_1 : WitnessClaimed_1 := ⟨start1.p0, start1.e0, start1.about1, start1.theMethod, start1.args0, start1.below0, start1.atStart⟩
end Jvm.Pilot.@@N@@
