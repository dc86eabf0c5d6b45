import JvmDerived
import JvmDerived.Pilot.@@N@@Statement
import JvmDerived.Pilot.@@N@@Code
set_option linter.unusedVariables false
set_option maxRecDepth 65536
set_option maxHeartbeats 40000000
set_option linter.unusedSimpArgs false
namespace Jvm.RoadKit
open Sem ClassFile Op Lib Jvm.Stand Jvm.Free Jvm.LawKit
section New
variable {p : Program} {l : Launch} {e : Env} {R : Room} {s : State} {m : MethodId} {args : Array Value} {below : List Frame} {meth : Method} {c : Code} {T : State} {locs : List Loc} {cells slots : Nat}
theorem retI (X : Stand p l e R s m args below meth c T locs cells slots) (hx : p.tables.exec = Jvm.exec) {pc : Nat} {Ls : Array Slot} {z : Int32} {rest : List Value} (hret : meth.sig.returnType = some .int) (hd : decode c.code pc = .ok (.ireturn, 1)) {fs : List Frame}
    (hl : ∀ (f : JFrame) (acts : List Action), f.method = m → f.locked = none → f.entered = [] → (doReturn e (T.setTop f) acts (some (.int z))).1 = T.setFrames fs) : Steps p.tables e below (T.setTop (mkF m pc Ls (.int z :: rest))) (T.setFrames fs) :=
  retOut X hx hret rfl (Or.inl ⟨rfl, Or.inl rfl, z, rfl⟩) hd hl
theorem retL (X : Stand p l e R s m args below meth c T locs cells slots) (hx : p.tables.exec = Jvm.exec) {pc : Nat} {Ls : Array Slot} {z : Int64} {rest : List Value} (hret : meth.sig.returnType = some .long) (hd : decode c.code pc = .ok (.lreturn, 1)) {fs : List Frame}
    (hl : ∀ (f : JFrame) (acts : List Action), f.method = m → f.locked = none → f.entered = [] → (doReturn e (T.setTop f) acts (some (.long z))).1 = T.setFrames fs) : Steps p.tables e below (T.setTop (mkF m pc Ls (.long z :: rest))) (T.setFrames fs) :=
  retOut X hx hret rfl (Or.inr (Or.inl ⟨rfl, rfl, z, rfl⟩)) hd hl
theorem retA (X : Stand p l e R s m args below meth c T locs cells slots) (hx : p.tables.exec = Jvm.exec) {pc : Nat} {Ls : Array Slot} {t : FieldType} {w : Value} {rest : List Value} (hret : meth.sig.returnType = some t) (ht : t.isReference = true) (hw : w.isRef = true) (hn : narrow t w = w) (hd : decode c.code pc = .ok (.areturn, 1)) {fs : List Frame}
    (hl : ∀ (f : JFrame) (acts : List Action), f.method = m → f.locked = none → f.entered = [] → (doReturn e (T.setTop f) acts (some w)).1 = T.setFrames fs) : Steps p.tables e below (T.setTop (mkF m pc Ls (w :: rest))) (T.setFrames fs) :=
  retOut X hx hret hn (Or.inr (Or.inr (Or.inr (Or.inr ⟨rfl, ht, hw⟩)))) hd hl
end New
theorem own_fld {args : Array Value} {s : State} {t : Term} {C n d : String} {k : Int32} {w : Addr} (h : (Cond.eq (Term.field t C n d) (Term.int k)).value args s none s [] = some true) (ev : t.eval args s none [] s = some (.ref w)) : Fld s s.heap w C n d (.int k) := by
  have e1 : (Term.field t C n d).eval args s none [] s = s.fieldOf? w C n d := fld_at ev
  have e2 : (Term.int k).eval args s none [] s = some (.int k) := rfl
  obtain ⟨x, y, ex, ey, k1, k2⟩ := cmp_v (Or.inl h)
  cases e2.symm.trans ey
  obtain ⟨z, rfl⟩ := k2
  have q : z = k := gotT (P := z = k) (Cond.eq_ints ex e2) h
  subst q
  exact Fld.start (e1.symm.trans ex)
end Jvm.RoadKit
namespace Jvm.Pilot.@@N@@
open Jvm Jvm.ClassFile Sem Op Lib Jvm.Free Jvm.Stand Jvm.LawKit Jvm.RoadKit Bundle Jvm.Pilot.@@N@@.Jvm.D
def own_QP (r : Option Value) (n0 : Nat) (h0 : Heap) (v : Option Value) (h : Heap) (L : List Loc) : Prop := v = r ∧ Fr n0 L ∧ h = h0
def own_Q1 (n0 : Nat) (v : Option Value) (h : Heap) (L : List Loc) : Prop := v = some (.int (1 : Int32)) ∧ Fr n0 L

abbrev k1 := jdk_38_method_2_code
abbrev k2 := jdk_39_method_1_code
abbrev k3 := jdk_22_method_1_code
abbrev k5 := method_3_code
abbrev k6 := jdk_38_method_25_code
abbrev k7 := jdk_38_method_24_code
abbrev k8 := jdk_38_method_7_code
abbrev k9 := jdk_38_method_6_code
abbrev k10 := jdk_29_method_65_code
abbrev k11 := prog_167_method_1_code
abbrev k12 := jdk_31_method_10_code
abbrev k13 := jdk_40_method_48_code
abbrev k14 := jdk_56_method_3_code
abbrev k15 := jdk_38_method_9_code
abbrev k16 := jdk_40_method_36_code
abbrev k17 := jdk_45_method_3_code
abbrev k18 := jdk_46_method_10_code
abbrev k19 := jdk_53_method_1_code
abbrev k20 := jdk_53_method_3_code
abbrev k21 := jdk_38_method_16_code
abbrev k22 := jdk_65_method_119_code
abbrev k23 := jdk_65_method_120_code
abbrev k24 := jdk_29_method_69_code
abbrev k25 := jdk_40_method_47_code
abbrev k26 := jdk_56_method_4_code
abbrev k27 := jdk_45_method_1_code
abbrev k28 := jdk_46_method_1_code
abbrev k29 := jdk_47_method_1_code
abbrev k30 := jdk_53_method_4_code
abbrev k31 := jdk_45_method_4_code
abbrev k32 := prog_166_method_11_code
abbrev k33 := prog_167_method_3_code
abbrev k34 := jdk_38_method_8_code
abbrev k35 := jdk_38_method_1_code
abbrev k36 := jdk_38_method_55_code
abbrev k37 := jdk_49_method_1_code
abbrev k38 := jdk_49_method_2_code
abbrev k39 := jdk_49_method_3_code
abbrev k40 := jdk_49_method_6_code
abbrev k41 := prog_167_method_8_code
abbrev k42 := jdk_38_method_20_code
abbrev k43 := jdk_31_method_17_code
abbrev k44 := jdk_41_method_11_code
abbrev k45 := jdk_38_method_18_code
abbrev k46 := jdk_44_method_1_code
abbrev k47 := jdk_44_method_3_code
abbrev k48 := jdk_44_method_5_code
abbrev k49 := jdk_44_method_2_code
abbrev k50 := prog_167_method_2_code
theorem d1_0 : decode k1 0 = .ok (.aload_n 0, 1) := by decide +kernel
theorem d1_1 : decode k1 1 = .ok (.invokespecial 1, 3) := by decide +kernel
theorem d1_4 : decode k1 4 = .ok (.aload_n 0, 1) := by decide +kernel
theorem d1_5 : decode k1 5 = .ok (.getstatic 39, 3) := by decide +kernel
theorem d1_8 : decode k1 8 = .ok (.putfield 9, 3) := by decide +kernel
theorem d1_11 : decode k1 11 = .ok (.return_, 1) := by decide +kernel
theorem d2_0 : decode k2 0 = .ok (.aload_n 0, 1) := by decide +kernel
theorem d2_1 : decode k2 1 = .ok (.invokespecial 1, 3) := by decide +kernel
theorem d2_4 : decode k2 4 = .ok (.aload_n 0, 1) := by decide +kernel
theorem d2_5 : decode k2 5 = .ok (.iconst 0, 1) := by decide +kernel
theorem d2_6 : decode k2 6 = .ok (.putfield 7, 3) := by decide +kernel
theorem d2_9 : decode k2 9 = .ok (.return_, 1) := by decide +kernel
theorem d3_0 : decode k3 0 = .ok (.aload_n 0, 1) := by decide +kernel
theorem d3_1 : decode k3 1 = .ok (.invokespecial 1, 3) := by decide +kernel
theorem d3_4 : decode k3 4 = .ok (.return_, 1) := by decide +kernel
theorem d5_0 : decode k5 0 = .ok (.iload_n 0, 1) := by decide +kernel
theorem d5_1 : decode k5 1 = .ok (.iload_n 1, 1) := by decide +kernel
theorem d5_2 : decode k5 2 = .ok (.iushr, 1) := by decide +kernel
theorem d5_3 : decode k5 3 = .ok (.iconst 1, 1) := by decide +kernel
theorem d5_4 : decode k5 4 = .ok (.iand, 1) := by decide +kernel
theorem d5_5 : decode k5 5 = .ok (.ifCond .eq 9, 3) := by decide +kernel
theorem d5_8 : decode k5 8 = .ok (.getstatic 39, 3) := by decide +kernel
theorem d5_11 : decode k5 11 = .ok (.goto 6, 3) := by decide +kernel
theorem d5_14 : decode k5 14 = .ok (.getstatic 45, 3) := by decide +kernel
theorem d5_17 : decode k5 17 = .ok (.areturn, 1) := by decide +kernel
theorem d6_0 : decode k6 0 = .ok (.aload_n 0, 1) := by decide +kernel
theorem d6_1 : decode k6 1 = .ok (.dup, 1) := by decide +kernel
theorem d6_2 : decode k6 2 = .ok (.getfield 63, 3) := by decide +kernel
theorem d6_5 : decode k6 5 = .ok (.iconst 1, 1) := by decide +kernel
theorem d6_6 : decode k6 6 = .ok (.iadd, 1) := by decide +kernel
theorem d6_7 : decode k6 7 = .ok (.putfield 63, 3) := by decide +kernel
theorem d6_10 : decode k6 10 = .ok (.aload_n 0, 1) := by decide +kernel
theorem d6_11 : decode k6 11 = .ok (.aload_n 1, 1) := by decide +kernel
theorem d6_12 : decode k6 12 = .ok (.aload_n 0, 1) := by decide +kernel
theorem d6_13 : decode k6 13 = .ok (.getfield 9, 3) := by decide +kernel
theorem d6_16 : decode k6 16 = .ok (.aload_n 0, 1) := by decide +kernel
theorem d6_17 : decode k6 17 = .ok (.getfield 48, 3) := by decide +kernel
theorem d6_20 : decode k6 20 = .ok (.invokevirtual 131, 3) := by decide +kernel
theorem d6_23 : decode k6 23 = .ok (.iconst 1, 1) := by decide +kernel
theorem d6_24 : decode k6 24 = .ok (.ireturn, 1) := by decide +kernel
theorem d7_0 : decode k7 0 = .ok (.iload_n 3, 1) := by decide +kernel
theorem d7_1 : decode k7 1 = .ok (.aload_n 2, 1) := by decide +kernel
theorem d7_2 : decode k7 2 = .ok (.arraylength, 1) := by decide +kernel
theorem d7_3 : decode k7 3 = .ok (.if_icmp .ne 8, 3) := by decide +kernel
theorem d7_6 : decode k7 6 = .ok (.aload_n 0, 1) := by decide +kernel
theorem d7_7 : decode k7 7 = .ok (.invokevirtual 129, 3) := by decide +kernel
theorem d7_10 : decode k7 10 = .ok (.astore_n 2, 1) := by decide +kernel
theorem d7_11 : decode k7 11 = .ok (.aload_n 2, 1) := by decide +kernel
theorem d7_12 : decode k7 12 = .ok (.iload_n 3, 1) := by decide +kernel
theorem d7_13 : decode k7 13 = .ok (.aload_n 1, 1) := by decide +kernel
theorem d7_14 : decode k7 14 = .ok (.aastore, 1) := by decide +kernel
theorem d7_15 : decode k7 15 = .ok (.aload_n 0, 1) := by decide +kernel
theorem d7_16 : decode k7 16 = .ok (.iload_n 3, 1) := by decide +kernel
theorem d7_17 : decode k7 17 = .ok (.iconst 1, 1) := by decide +kernel
theorem d7_18 : decode k7 18 = .ok (.iadd, 1) := by decide +kernel
theorem d7_19 : decode k7 19 = .ok (.putfield 48, 3) := by decide +kernel
theorem d7_22 : decode k7 22 = .ok (.return_, 1) := by decide +kernel
theorem d8_0 : decode k8 0 = .ok (.aload_n 0, 1) := by decide +kernel
theorem d8_1 : decode k8 1 = .ok (.aload_n 0, 1) := by decide +kernel
theorem d8_2 : decode k8 2 = .ok (.getfield 48, 3) := by decide +kernel
theorem d8_5 : decode k8 5 = .ok (.iconst 1, 1) := by decide +kernel
theorem d8_6 : decode k8 6 = .ok (.iadd, 1) := by decide +kernel
theorem d8_7 : decode k8 7 = .ok (.invokevirtual 69, 3) := by decide +kernel
theorem d8_10 : decode k8 10 = .ok (.areturn, 1) := by decide +kernel
theorem d9_0 : decode k9 0 = .ok (.aload_n 0, 1) := by decide +kernel
theorem d9_1 : decode k9 1 = .ok (.getfield 9, 3) := by decide +kernel
theorem d9_4 : decode k9 4 = .ok (.arraylength, 1) := by decide +kernel
theorem d9_5 : decode k9 5 = .ok (.istore_n 2, 1) := by decide +kernel
theorem d9_6 : decode k9 6 = .ok (.iload_n 2, 1) := by decide +kernel
theorem d9_7 : decode k9 7 = .ok (.ifCond .gt 13, 3) := by decide +kernel
theorem d9_10 : decode k9 10 = .ok (.aload_n 0, 1) := by decide +kernel
theorem d9_11 : decode k9 11 = .ok (.getfield 9, 3) := by decide +kernel
theorem d9_14 : decode k9 14 = .ok (.getstatic 39, 3) := by decide +kernel
theorem d9_17 : decode k9 17 = .ok (.if_acmp .eq 28, 3) := by decide +kernel
theorem d9_45 : decode k9 45 = .ok (.aload_n 0, 1) := by decide +kernel
theorem d9_46 : decode k9 46 = .ok (.bipush 10, 2) := by decide +kernel
theorem d9_48 : decode k9 48 = .ok (.iload_n 1, 1) := by decide +kernel
theorem d9_49 : decode k9 49 = .ok (.invokestatic 79, 3) := by decide +kernel
theorem d9_52 : decode k9 52 = .ok (.anewarray 7, 3) := by decide +kernel
theorem d9_55 : decode k9 55 = .ok (.dup_x1, 1) := by decide +kernel
theorem d9_56 : decode k9 56 = .ok (.putfield 9, 3) := by decide +kernel
theorem d9_59 : decode k9 59 = .ok (.areturn, 1) := by decide +kernel
theorem d10_0 : decode k10 0 = .ok (.iload_n 0, 1) := by decide +kernel
theorem d10_1 : decode k10 1 = .ok (.iload_n 1, 1) := by decide +kernel
theorem d10_2 : decode k10 2 = .ok (.if_icmp .lt 7, 3) := by decide +kernel
theorem d10_5 : decode k10 5 = .ok (.iload_n 0, 1) := by decide +kernel
theorem d10_6 : decode k10 6 = .ok (.goto 4, 3) := by decide +kernel
theorem d10_10 : decode k10 10 = .ok (.ireturn, 1) := by decide +kernel
theorem d11_0 : decode k11 0 = .ok (.aload_n 0, 1) := by decide +kernel
theorem d11_1 : decode k11 1 = .ok (.invokespecial 1, 3) := by decide +kernel
theorem d11_4 : decode k11 4 = .ok (.aload_n 0, 1) := by decide +kernel
theorem d11_5 : decode k11 5 = .ok (.aload_n 1, 1) := by decide +kernel
theorem d11_6 : decode k11 6 = .ok (.invokestatic 7, 3) := by decide +kernel
theorem d11_9 : decode k11 9 = .ok (.checkcast 13, 3) := by decide +kernel
theorem d11_12 : decode k11 12 = .ok (.putfield 15, 3) := by decide +kernel
theorem d11_15 : decode k11 15 = .ok (.aload_n 0, 1) := by decide +kernel
theorem d11_16 : decode k11 16 = .ok (.aload_n 2, 1) := by decide +kernel
theorem d11_17 : decode k11 17 = .ok (.invokestatic 21, 3) := by decide +kernel
theorem d11_20 : decode k11 20 = .ok (.putfield 27, 3) := by decide +kernel
theorem d11_23 : decode k11 23 = .ok (.aload_n 0, 1) := by decide +kernel
theorem d11_24 : decode k11 24 = .ok (.aload_n 0, 1) := by decide +kernel
theorem d11_25 : decode k11 25 = .ok (.getfield 27, 3) := by decide +kernel
theorem d11_28 : decode k11 28 = .ok (.invokeinterface 31 1, 5) := by decide +kernel
theorem d11_33 : decode k11 33 = .ok (.putfield 35, 3) := by decide +kernel
theorem d11_36 : decode k11 36 = .ok (.aload_n 0, 1) := by decide +kernel
theorem d11_37 : decode k11 37 = .ok (.aconst_null, 1) := by decide +kernel
theorem d11_38 : decode k11 38 = .ok (.putfield 38, 3) := by decide +kernel
theorem d11_41 : decode k11 41 = .ok (.aload_n 0, 1) := by decide +kernel
theorem d11_42 : decode k11 42 = .ok (.getfield 27, 3) := by decide +kernel
theorem d11_45 : decode k11 45 = .ok (.invokeinterface 41 1, 5) := by decide +kernel
theorem d11_50 : decode k11 50 = .ok (.astore_n 3, 1) := by decide +kernel
theorem d11_51 : decode k11 51 = .ok (.aload_n 3, 1) := by decide +kernel
theorem d11_52 : decode k11 52 = .ok (.invokeinterface 45 1, 5) := by decide +kernel
theorem d11_57 : decode k11 57 = .ok (.ifCond .eq 48, 3) := by decide +kernel
theorem d11_60 : decode k11 60 = .ok (.aload_n 3, 1) := by decide +kernel
theorem d11_61 : decode k11 61 = .ok (.invokeinterface 51 1, 5) := by decide +kernel
theorem d11_66 : decode k11 66 = .ok (.checkcast 55, 3) := by decide +kernel
theorem d11_69 : decode k11 69 = .ok (.astore 4, 2) := by decide +kernel
theorem d11_71 : decode k11 71 = .ok (.aload 4, 2) := by decide +kernel
theorem d11_73 : decode k11 73 = .ok (.invokevirtual 57, 3) := by decide +kernel
theorem d11_76 : decode k11 76 = .ok (.aload_n 1, 1) := by decide +kernel
theorem d11_77 : decode k11 77 = .ok (.if_acmp .eq 25, 3) := by decide +kernel
theorem d11_102 : decode k11 102 = .ok (.goto (-51), 3) := by decide +kernel
theorem d11_105 : decode k11 105 = .ok (.return_, 1) := by decide +kernel
theorem d12_0 : decode k12 0 = .ok (.aload_n 0, 1) := by decide +kernel
theorem d12_1 : decode k12 1 = .ok (.ifnonnull 11, 3) := by decide +kernel
theorem d12_12 : decode k12 12 = .ok (.aload_n 0, 1) := by decide +kernel
theorem d12_13 : decode k12 13 = .ok (.areturn, 1) := by decide +kernel
theorem d13_0 : decode k13 0 = .ok (.aload_n 0, 1) := by decide +kernel
theorem d13_1 : decode k13 1 = .ok (.invokestatic 112, 3) := by decide +kernel
theorem d13_4 : decode k13 4 = .ok (.areturn, 1) := by decide +kernel
theorem d14_0 : decode k14 0 = .ok (.aload_n 0, 1) := by decide +kernel
theorem d14_1 : decode k14 1 = .ok (.instanceof 10, 3) := by decide +kernel
theorem d14_4 : decode k14 4 = .ok (.ifCond .ne 22, 3) := by decide +kernel
theorem d14_7 : decode k14 7 = .ok (.aload_n 0, 1) := by decide +kernel
theorem d14_8 : decode k14 8 = .ok (.instanceof 12, 3) := by decide +kernel
theorem d14_11 : decode k14 11 = .ok (.ifCond .eq 20, 3) := by decide +kernel
theorem d14_31 : decode k14 31 = .ok (.aload_n 0, 1) := by decide +kernel
theorem d14_32 : decode k14 32 = .ok (.invokeinterface 20 1, 5) := by decide +kernel
theorem d14_37 : decode k14 37 = .ok (.ifCond .eq 7, 3) := by decide +kernel
theorem d14_40 : decode k14 40 = .ok (.invokestatic 26, 3) := by decide +kernel
theorem d14_43 : decode k14 43 = .ok (.areturn, 1) := by decide +kernel
theorem d14_44 : decode k14 44 = .ok (.aload_n 0, 1) := by decide +kernel
theorem d14_45 : decode k14 45 = .ok (.invokeinterface 30 1, 5) := by decide +kernel
theorem d14_50 : decode k14 50 = .ok (.invokestatic 34, 3) := by decide +kernel
theorem d14_53 : decode k14 53 = .ok (.areturn, 1) := by decide +kernel
theorem d15_0 : decode k15 0 = .ok (.aload_n 0, 1) := by decide +kernel
theorem d15_1 : decode k15 1 = .ok (.getfield 48, 3) := by decide +kernel
theorem d15_4 : decode k15 4 = .ok (.ifCond .ne 7, 3) := by decide +kernel
theorem d15_7 : decode k15 7 = .ok (.iconst 1, 1) := by decide +kernel
theorem d15_8 : decode k15 8 = .ok (.goto 4, 3) := by decide +kernel
theorem d15_11 : decode k15 11 = .ok (.iconst 0, 1) := by decide +kernel
theorem d15_12 : decode k15 12 = .ok (.ireturn, 1) := by decide +kernel
theorem d16_0 : decode k16 0 = .ok (.getstatic 90, 3) := by decide +kernel
theorem d16_3 : decode k16 3 = .ok (.areturn, 1) := by decide +kernel
theorem d17_0 : decode k17 0 = .ok (.aload_n 0, 1) := by decide +kernel
theorem d17_1 : decode k17 1 = .ok (.getfield 7, 3) := by decide +kernel
theorem d17_4 : decode k17 4 = .ok (.arraylength, 1) := by decide +kernel
theorem d17_5 : decode k17 5 = .ok (.ireturn, 1) := by decide +kernel
theorem d18_0 : decode k18 0 = .ok (.new 61, 3) := by decide +kernel
theorem d18_3 : decode k18 3 = .ok (.dup, 1) := by decide +kernel
theorem d18_4 : decode k18 4 = .ok (.aload_n 0, 1) := by decide +kernel
theorem d18_5 : decode k18 5 = .ok (.aload_n 0, 1) := by decide +kernel
theorem d18_6 : decode k18 6 = .ok (.invokevirtual 13, 3) := by decide +kernel
theorem d18_9 : decode k18 9 = .ok (.invokespecial 63, 3) := by decide +kernel
theorem d18_12 : decode k18 12 = .ok (.areturn, 1) := by decide +kernel
theorem d19_0 : decode k19 0 = .ok (.aload_n 0, 1) := by decide +kernel
theorem d19_1 : decode k19 1 = .ok (.invokespecial 1, 3) := by decide +kernel
theorem d19_4 : decode k19 4 = .ok (.aload_n 0, 1) := by decide +kernel
theorem d19_5 : decode k19 5 = .ok (.aload_n 1, 1) := by decide +kernel
theorem d19_6 : decode k19 6 = .ok (.putfield 7, 3) := by decide +kernel
theorem d19_9 : decode k19 9 = .ok (.aload_n 0, 1) := by decide +kernel
theorem d19_10 : decode k19 10 = .ok (.iload_n 2, 1) := by decide +kernel
theorem d19_11 : decode k19 11 = .ok (.putfield 13, 3) := by decide +kernel
theorem d19_14 : decode k19 14 = .ok (.aload_n 0, 1) := by decide +kernel
theorem d19_15 : decode k19 15 = .ok (.iconst 0, 1) := by decide +kernel
theorem d19_16 : decode k19 16 = .ok (.putfield 17, 3) := by decide +kernel
theorem d19_19 : decode k19 19 = .ok (.aload_n 0, 1) := by decide +kernel
theorem d19_20 : decode k19 20 = .ok (.iconst 0, 1) := by decide +kernel
theorem d19_21 : decode k19 21 = .ok (.putfield 20, 3) := by decide +kernel
theorem d19_24 : decode k19 24 = .ok (.return_, 1) := by decide +kernel
theorem d20_0 : decode k20 0 = .ok (.aload_n 0, 1) := by decide +kernel
theorem d20_1 : decode k20 1 = .ok (.getfield 17, 3) := by decide +kernel
theorem d20_4 : decode k20 4 = .ok (.aload_n 0, 1) := by decide +kernel
theorem d20_5 : decode k20 5 = .ok (.getfield 13, 3) := by decide +kernel
theorem d20_8 : decode k20 8 = .ok (.if_icmp .eq 7, 3) := by decide +kernel
theorem d20_11 : decode k20 11 = .ok (.iconst 1, 1) := by decide +kernel
theorem d20_12 : decode k20 12 = .ok (.goto 4, 3) := by decide +kernel
theorem d20_15 : decode k20 15 = .ok (.iconst 0, 1) := by decide +kernel
theorem d20_16 : decode k20 16 = .ok (.ireturn, 1) := by decide +kernel
theorem d21_0 : decode k21 0 = .ok (.aload_n 0, 1) := by decide +kernel
theorem d21_1 : decode k21 1 = .ok (.getfield 9, 3) := by decide +kernel
theorem d21_4 : decode k21 4 = .ok (.aload_n 0, 1) := by decide +kernel
theorem d21_5 : decode k21 5 = .ok (.getfield 48, 3) := by decide +kernel
theorem d21_8 : decode k21 8 = .ok (.invokestatic 66, 3) := by decide +kernel
theorem d21_11 : decode k21 11 = .ok (.areturn, 1) := by decide +kernel
theorem d22_0 : decode k22 0 = .ok (.aload_n 0, 1) := by decide +kernel
theorem d22_1 : decode k22 1 = .ok (.iload_n 1, 1) := by decide +kernel
theorem d22_2 : decode k22 2 = .ok (.aload_n 0, 1) := by decide +kernel
theorem d22_3 : decode k22 3 = .ok (.invokevirtual 86, 3) := by decide +kernel
theorem d22_6 : decode k22 6 = .ok (.invokestatic 300, 3) := by decide +kernel
theorem d22_9 : decode k22 9 = .ok (.areturn, 1) := by decide +kernel
theorem d23_0 : decode k23 0 = .ok (.aload_n 2, 1) := by decide +kernel
theorem d23_1 : decode k23 1 = .ok (.ldc 110, 2) := by decide +kernel
theorem d23_3 : decode k23 3 = .ok (.if_acmp .ne 10, 3) := by decide +kernel
theorem d23_6 : decode k23 6 = .ok (.iload_n 1, 1) := by decide +kernel
theorem d23_7 : decode k23 7 = .ok (.anewarray 2, 3) := by decide +kernel
theorem d23_10 : decode k23 10 = .ok (.goto 14, 3) := by decide +kernel
theorem d23_24 : decode k23 24 = .ok (.astore_n 3, 1) := by decide +kernel
theorem d23_25 : decode k23 25 = .ok (.aload_n 0, 1) := by decide +kernel
theorem d23_26 : decode k23 26 = .ok (.iconst 0, 1) := by decide +kernel
theorem d23_27 : decode k23 27 = .ok (.aload_n 3, 1) := by decide +kernel
theorem d23_28 : decode k23 28 = .ok (.iconst 0, 1) := by decide +kernel
theorem d23_29 : decode k23 29 = .ok (.aload_n 0, 1) := by decide +kernel
theorem d23_30 : decode k23 30 = .ok (.arraylength, 1) := by decide +kernel
theorem d23_31 : decode k23 31 = .ok (.iload_n 1, 1) := by decide +kernel
theorem d23_32 : decode k23 32 = .ok (.invokestatic 304, 3) := by decide +kernel
theorem d23_35 : decode k23 35 = .ok (.invokestatic 150, 3) := by decide +kernel
theorem d23_38 : decode k23 38 = .ok (.aload_n 3, 1) := by decide +kernel
theorem d23_39 : decode k23 39 = .ok (.areturn, 1) := by decide +kernel
theorem d24_0 : decode k24 0 = .ok (.iload_n 0, 1) := by decide +kernel
theorem d24_1 : decode k24 1 = .ok (.iload_n 1, 1) := by decide +kernel
theorem d24_2 : decode k24 2 = .ok (.if_icmp .gt 7, 3) := by decide +kernel
theorem d24_5 : decode k24 5 = .ok (.iload_n 0, 1) := by decide +kernel
theorem d24_6 : decode k24 6 = .ok (.goto 4, 3) := by decide +kernel
theorem d24_9 : decode k24 9 = .ok (.iload_n 1, 1) := by decide +kernel
theorem d24_10 : decode k24 10 = .ok (.ireturn, 1) := by decide +kernel
theorem d25_0 : decode k25 0 = .ok (.aload_n 0, 1) := by decide +kernel
theorem d25_1 : decode k25 1 = .ok (.arraylength, 1) := by decide +kernel
theorem d25_2 : decode k25 2 = .ok (.tableswitch 57 0 2 #[26, 32, 43], 26) := by decide +kernel
theorem d25_34 : decode k25 34 = .ok (.new 96, 3) := by decide +kernel
theorem d25_37 : decode k25 37 = .ok (.dup, 1) := by decide +kernel
theorem d25_38 : decode k25 38 = .ok (.aload_n 0, 1) := by decide +kernel
theorem d25_39 : decode k25 39 = .ok (.iconst 0, 1) := by decide +kernel
theorem d25_40 : decode k25 40 = .ok (.aaload, 1) := by decide +kernel
theorem d25_41 : decode k25 41 = .ok (.invokespecial 98, 3) := by decide +kernel
theorem d25_44 : decode k25 44 = .ok (.areturn, 1) := by decide +kernel
theorem d25_45 : decode k25 45 = .ok (.new 96, 3) := by decide +kernel
theorem d25_48 : decode k25 48 = .ok (.dup, 1) := by decide +kernel
theorem d25_49 : decode k25 49 = .ok (.aload_n 0, 1) := by decide +kernel
theorem d25_50 : decode k25 50 = .ok (.iconst 0, 1) := by decide +kernel
theorem d25_51 : decode k25 51 = .ok (.aaload, 1) := by decide +kernel
theorem d25_52 : decode k25 52 = .ok (.aload_n 0, 1) := by decide +kernel
theorem d25_53 : decode k25 53 = .ok (.iconst 1, 1) := by decide +kernel
theorem d25_54 : decode k25 54 = .ok (.aaload, 1) := by decide +kernel
theorem d25_55 : decode k25 55 = .ok (.invokespecial 100, 3) := by decide +kernel
theorem d25_58 : decode k25 58 = .ok (.areturn, 1) := by decide +kernel
theorem d25_59 : decode k25 59 = .ok (.aload_n 0, 1) := by decide +kernel
theorem d25_60 : decode k25 60 = .ok (.invokestatic 109, 3) := by decide +kernel
theorem d25_63 : decode k25 63 = .ok (.areturn, 1) := by decide +kernel
theorem d26_0 : decode k26 0 = .ok (.aload_n 0, 1) := by decide +kernel
theorem d26_1 : decode k26 1 = .ok (.arraylength, 1) := by decide +kernel
theorem d26_2 : decode k26 2 = .ok (.anewarray 2, 3) := by decide +kernel
theorem d26_5 : decode k26 5 = .ok (.astore_n 1, 1) := by decide +kernel
theorem d26_6 : decode k26 6 = .ok (.iconst 0, 1) := by decide +kernel
theorem d26_7 : decode k26 7 = .ok (.istore_n 2, 1) := by decide +kernel
theorem d26_8 : decode k26 8 = .ok (.iload_n 2, 1) := by decide +kernel
theorem d26_9 : decode k26 9 = .ok (.aload_n 0, 1) := by decide +kernel
theorem d26_10 : decode k26 10 = .ok (.arraylength, 1) := by decide +kernel
theorem d26_11 : decode k26 11 = .ok (.if_icmp .ge 18, 3) := by decide +kernel
theorem d26_14 : decode k26 14 = .ok (.aload_n 1, 1) := by decide +kernel
theorem d26_15 : decode k26 15 = .ok (.iload_n 2, 1) := by decide +kernel
theorem d26_16 : decode k26 16 = .ok (.aload_n 0, 1) := by decide +kernel
theorem d26_17 : decode k26 17 = .ok (.iload_n 2, 1) := by decide +kernel
theorem d26_18 : decode k26 18 = .ok (.aaload, 1) := by decide +kernel
theorem d26_19 : decode k26 19 = .ok (.invokestatic 37, 3) := by decide +kernel
theorem d26_22 : decode k26 22 = .ok (.aastore, 1) := by decide +kernel
theorem d26_23 : decode k26 23 = .ok (.iinc 2 1, 3) := by decide +kernel
theorem d26_26 : decode k26 26 = .ok (.goto (-18), 3) := by decide +kernel
theorem d26_29 : decode k26 29 = .ok (.new 12, 3) := by decide +kernel
theorem d26_32 : decode k26 32 = .ok (.dup, 1) := by decide +kernel
theorem d26_33 : decode k26 33 = .ok (.aload_n 1, 1) := by decide +kernel
theorem d26_34 : decode k26 34 = .ok (.iconst 0, 1) := by decide +kernel
theorem d26_35 : decode k26 35 = .ok (.invokespecial 43, 3) := by decide +kernel
theorem d26_38 : decode k26 38 = .ok (.areturn, 1) := by decide +kernel
theorem d27_0 : decode k27 0 = .ok (.aload_n 0, 1) := by decide +kernel
theorem d27_1 : decode k27 1 = .ok (.invokespecial 1, 3) := by decide +kernel
theorem d27_4 : decode k27 4 = .ok (.aload_n 0, 1) := by decide +kernel
theorem d27_5 : decode k27 5 = .ok (.aload_n 1, 1) := by decide +kernel
theorem d27_6 : decode k27 6 = .ok (.putfield 7, 3) := by decide +kernel
theorem d27_9 : decode k27 9 = .ok (.aload_n 0, 1) := by decide +kernel
theorem d27_10 : decode k27 10 = .ok (.iload_n 2, 1) := by decide +kernel
theorem d27_11 : decode k27 11 = .ok (.putfield 13, 3) := by decide +kernel
theorem d27_14 : decode k27 14 = .ok (.return_, 1) := by decide +kernel
theorem d28_0 : decode k28 0 = .ok (.aload_n 0, 1) := by decide +kernel
theorem d28_1 : decode k28 1 = .ok (.invokespecial 1, 3) := by decide +kernel
theorem d28_4 : decode k28 4 = .ok (.return_, 1) := by decide +kernel
theorem d29_0 : decode k29 0 = .ok (.aload_n 0, 1) := by decide +kernel
theorem d29_1 : decode k29 1 = .ok (.invokespecial 1, 3) := by decide +kernel
theorem d29_4 : decode k29 4 = .ok (.return_, 1) := by decide +kernel
theorem d30_0 : decode k30 0 = .ok (.aload_n 0, 1) := by decide +kernel
theorem d30_1 : decode k30 1 = .ok (.getfield 17, 3) := by decide +kernel
theorem d30_4 : decode k30 4 = .ok (.istore_n 1, 1) := by decide +kernel
theorem d30_5 : decode k30 5 = .ok (.aload_n 0, 1) := by decide +kernel
theorem d30_6 : decode k30 6 = .ok (.getfield 7, 3) := by decide +kernel
theorem d30_9 : decode k30 9 = .ok (.iload_n 1, 1) := by decide +kernel
theorem d30_10 : decode k30 10 = .ok (.invokeinterface 24 2, 5) := by decide +kernel
theorem d30_15 : decode k30 15 = .ok (.astore_n 2, 1) := by decide +kernel
theorem d30_16 : decode k30 16 = .ok (.aload_n 0, 1) := by decide +kernel
theorem d30_17 : decode k30 17 = .ok (.iload_n 1, 1) := by decide +kernel
theorem d30_18 : decode k30 18 = .ok (.iconst 1, 1) := by decide +kernel
theorem d30_19 : decode k30 19 = .ok (.iadd, 1) := by decide +kernel
theorem d30_20 : decode k30 20 = .ok (.putfield 17, 3) := by decide +kernel
theorem d30_23 : decode k30 23 = .ok (.aload_n 2, 1) := by decide +kernel
theorem d30_24 : decode k30 24 = .ok (.areturn, 1) := by decide +kernel
theorem d31_0 : decode k31 0 = .ok (.aload_n 0, 1) := by decide +kernel
theorem d31_1 : decode k31 1 = .ok (.getfield 7, 3) := by decide +kernel
theorem d31_4 : decode k31 4 = .ok (.iload_n 1, 1) := by decide +kernel
theorem d31_5 : decode k31 5 = .ok (.aaload, 1) := by decide +kernel
theorem d31_6 : decode k31 6 = .ok (.areturn, 1) := by decide +kernel
theorem d32_0 : decode k32 0 = .ok (.aload_n 0, 1) := by decide +kernel
theorem d32_1 : decode k32 1 = .ok (.getfield 15, 3) := by decide +kernel
theorem d32_4 : decode k32 4 = .ok (.areturn, 1) := by decide +kernel
theorem d33_0 : decode k33 0 = .ok (.new 79, 3) := by decide +kernel
theorem d33_3 : decode k33 3 = .ok (.dup, 1) := by decide +kernel
theorem d33_4 : decode k33 4 = .ok (.aload_n 1, 1) := by decide +kernel
theorem d33_5 : decode k33 5 = .ok (.invokeinterface 31 1, 5) := by decide +kernel
theorem d33_10 : decode k33 10 = .ok (.invokespecial 81, 3) := by decide +kernel
theorem d33_13 : decode k33 13 = .ok (.astore_n 2, 1) := by decide +kernel
theorem d33_14 : decode k33 14 = .ok (.iconst 0, 1) := by decide +kernel
theorem d33_15 : decode k33 15 = .ok (.istore_n 3, 1) := by decide +kernel
theorem d33_16 : decode k33 16 = .ok (.aload_n 1, 1) := by decide +kernel
theorem d33_17 : decode k33 17 = .ok (.invokeinterface 41 1, 5) := by decide +kernel
theorem d33_22 : decode k33 22 = .ok (.astore 4, 2) := by decide +kernel
theorem d33_24 : decode k33 24 = .ok (.aload 4, 2) := by decide +kernel
theorem d33_26 : decode k33 26 = .ok (.invokeinterface 45 1, 5) := by decide +kernel
theorem d33_31 : decode k33 31 = .ok (.ifCond .eq 97, 3) := by decide +kernel
theorem d33_34 : decode k33 34 = .ok (.aload 4, 2) := by decide +kernel
theorem d33_36 : decode k33 36 = .ok (.invokeinterface 51 1, 5) := by decide +kernel
theorem d33_41 : decode k33 41 = .ok (.checkcast 16, 3) := by decide +kernel
theorem d33_44 : decode k33 44 = .ok (.astore 5, 2) := by decide +kernel
theorem d33_46 : decode k33 46 = .ok (.aload 5, 2) := by decide +kernel
theorem d33_48 : decode k33 48 = .ok (.getfield 15, 3) := by decide +kernel
theorem d33_51 : decode k33 51 = .ok (.aload_n 0, 1) := by decide +kernel
theorem d33_52 : decode k33 52 = .ok (.if_acmp .eq 25, 3) := by decide +kernel
theorem d33_77 : decode k33 77 = .ok (.aload 5, 2) := by decide +kernel
theorem d33_79 : decode k33 79 = .ok (.getfield 38, 3) := by decide +kernel
theorem d33_82 : decode k33 82 = .ok (.ifnull 18, 3) := by decide +kernel
theorem d33_100 : decode k33 100 = .ok (.aload 5, 2) := by decide +kernel
theorem d33_102 : decode k33 102 = .ok (.invokevirtual 89, 3) := by decide +kernel
theorem d33_105 : decode k33 105 = .ok (.ifCond .ne 12, 3) := by decide +kernel
theorem d33_108 : decode k33 108 = .ok (.aload_n 2, 1) := by decide +kernel
theorem d33_109 : decode k33 109 = .ok (.aload 5, 2) := by decide +kernel
theorem d33_111 : decode k33 111 = .ok (.invokeinterface 92 2, 5) := by decide +kernel
theorem d33_116 : decode k33 116 = .ok (.pop, 1) := by decide +kernel
theorem d33_117 : decode k33 117 = .ok (.iload_n 3, 1) := by decide +kernel
theorem d33_118 : decode k33 118 = .ok (.aload 5, 2) := by decide +kernel
theorem d33_120 : decode k33 120 = .ok (.getfield 35, 3) := by decide +kernel
theorem d33_123 : decode k33 123 = .ok (.iadd, 1) := by decide +kernel
theorem d33_124 : decode k33 124 = .ok (.istore_n 3, 1) := by decide +kernel
theorem d33_125 : decode k33 125 = .ok (.goto (-101), 3) := by decide +kernel
theorem d33_128 : decode k33 128 = .ok (.aload_n 2, 1) := by decide +kernel
theorem d33_129 : decode k33 129 = .ok (.invokeinterface 31 1, 5) := by decide +kernel
theorem d33_134 : decode k33 134 = .ok (.iconst 1, 1) := by decide +kernel
theorem d33_135 : decode k33 135 = .ok (.if_icmp .ne 14, 3) := by decide +kernel
theorem d33_138 : decode k33 138 = .ok (.aload_n 2, 1) := by decide +kernel
theorem d33_139 : decode k33 139 = .ok (.iconst 0, 1) := by decide +kernel
theorem d33_140 : decode k33 140 = .ok (.invokeinterface 96 2, 5) := by decide +kernel
theorem d33_145 : decode k33 145 = .ok (.checkcast 16, 3) := by decide +kernel
theorem d33_148 : decode k33 148 = .ok (.areturn, 1) := by decide +kernel
theorem d33_149 : decode k33 149 = .ok (.new 16, 3) := by decide +kernel
theorem d33_152 : decode k33 152 = .ok (.dup, 1) := by decide +kernel
theorem d33_153 : decode k33 153 = .ok (.aload_n 0, 1) := by decide +kernel
theorem d33_154 : decode k33 154 = .ok (.aload_n 2, 1) := by decide +kernel
theorem d33_155 : decode k33 155 = .ok (.invokestatic 21, 3) := by decide +kernel
theorem d33_158 : decode k33 158 = .ok (.iload_n 3, 1) := by decide +kernel
theorem d33_159 : decode k33 159 = .ok (.invokespecial 100, 3) := by decide +kernel
theorem d33_162 : decode k33 162 = .ok (.areturn, 1) := by decide +kernel
theorem d34_0 : decode k34 0 = .ok (.aload_n 0, 1) := by decide +kernel
theorem d34_1 : decode k34 1 = .ok (.getfield 48, 3) := by decide +kernel
theorem d34_4 : decode k34 4 = .ok (.ireturn, 1) := by decide +kernel
theorem d35_0 : decode k35 0 = .ok (.aload_n 0, 1) := by decide +kernel
theorem d35_1 : decode k35 1 = .ok (.invokespecial 1, 3) := by decide +kernel
theorem d35_4 : decode k35 4 = .ok (.iload_n 1, 1) := by decide +kernel
theorem d35_5 : decode k35 5 = .ok (.ifCond .le 14, 3) := by decide +kernel
theorem d35_8 : decode k35 8 = .ok (.aload_n 0, 1) := by decide +kernel
theorem d35_9 : decode k35 9 = .ok (.iload_n 1, 1) := by decide +kernel
theorem d35_10 : decode k35 10 = .ok (.anewarray 7, 3) := by decide +kernel
theorem d35_13 : decode k35 13 = .ok (.putfield 9, 3) := by decide +kernel
theorem d35_16 : decode k35 16 = .ok (.goto 44, 3) := by decide +kernel
theorem d35_60 : decode k35 60 = .ok (.return_, 1) := by decide +kernel
theorem d36_0 : decode k36 0 = .ok (.new 267, 3) := by decide +kernel
theorem d36_3 : decode k36 3 = .ok (.dup, 1) := by decide +kernel
theorem d36_4 : decode k36 4 = .ok (.aload_n 0, 1) := by decide +kernel
theorem d36_5 : decode k36 5 = .ok (.invokespecial 269, 3) := by decide +kernel
theorem d36_8 : decode k36 8 = .ok (.areturn, 1) := by decide +kernel
theorem d37_0 : decode k37 0 = .ok (.aload_n 0, 1) := by decide +kernel
theorem d37_1 : decode k37 1 = .ok (.aload_n 1, 1) := by decide +kernel
theorem d37_2 : decode k37 2 = .ok (.putfield 1, 3) := by decide +kernel
theorem d37_5 : decode k37 5 = .ok (.aload_n 0, 1) := by decide +kernel
theorem d37_6 : decode k37 6 = .ok (.invokespecial 7, 3) := by decide +kernel
theorem d37_9 : decode k37 9 = .ok (.aload_n 0, 1) := by decide +kernel
theorem d37_10 : decode k37 10 = .ok (.iconst (-1), 1) := by decide +kernel
theorem d37_11 : decode k37 11 = .ok (.putfield 13, 3) := by decide +kernel
theorem d37_14 : decode k37 14 = .ok (.aload_n 0, 1) := by decide +kernel
theorem d37_15 : decode k37 15 = .ok (.aload_n 0, 1) := by decide +kernel
theorem d37_16 : decode k37 16 = .ok (.getfield 1, 3) := by decide +kernel
theorem d37_19 : decode k37 19 = .ok (.getfield 17, 3) := by decide +kernel
theorem d37_22 : decode k37 22 = .ok (.putfield 22, 3) := by decide +kernel
theorem d37_25 : decode k37 25 = .ok (.return_, 1) := by decide +kernel
theorem d38_0 : decode k38 0 = .ok (.aload_n 0, 1) := by decide +kernel
theorem d38_1 : decode k38 1 = .ok (.getfield 25, 3) := by decide +kernel
theorem d38_4 : decode k38 4 = .ok (.aload_n 0, 1) := by decide +kernel
theorem d38_5 : decode k38 5 = .ok (.getfield 1, 3) := by decide +kernel
theorem d38_8 : decode k38 8 = .ok (.getfield 28, 3) := by decide +kernel
theorem d38_11 : decode k38 11 = .ok (.if_icmp .eq 7, 3) := by decide +kernel
theorem d38_14 : decode k38 14 = .ok (.iconst 1, 1) := by decide +kernel
theorem d38_15 : decode k38 15 = .ok (.goto 4, 3) := by decide +kernel
theorem d38_18 : decode k38 18 = .ok (.iconst 0, 1) := by decide +kernel
theorem d38_19 : decode k38 19 = .ok (.ireturn, 1) := by decide +kernel
theorem d39_0 : decode k39 0 = .ok (.aload_n 0, 1) := by decide +kernel
theorem d39_1 : decode k39 1 = .ok (.invokevirtual 31, 3) := by decide +kernel
theorem d39_4 : decode k39 4 = .ok (.aload_n 0, 1) := by decide +kernel
theorem d39_5 : decode k39 5 = .ok (.getfield 25, 3) := by decide +kernel
theorem d39_8 : decode k39 8 = .ok (.istore_n 1, 1) := by decide +kernel
theorem d39_9 : decode k39 9 = .ok (.iload_n 1, 1) := by decide +kernel
theorem d39_10 : decode k39 10 = .ok (.aload_n 0, 1) := by decide +kernel
theorem d39_11 : decode k39 11 = .ok (.getfield 1, 3) := by decide +kernel
theorem d39_14 : decode k39 14 = .ok (.getfield 28, 3) := by decide +kernel
theorem d39_17 : decode k39 17 = .ok (.if_icmp .lt 11, 3) := by decide +kernel
theorem d39_28 : decode k39 28 = .ok (.aload_n 0, 1) := by decide +kernel
theorem d39_29 : decode k39 29 = .ok (.getfield 1, 3) := by decide +kernel
theorem d39_32 : decode k39 32 = .ok (.getfield 37, 3) := by decide +kernel
theorem d39_35 : decode k39 35 = .ok (.astore_n 2, 1) := by decide +kernel
theorem d39_36 : decode k39 36 = .ok (.iload_n 1, 1) := by decide +kernel
theorem d39_37 : decode k39 37 = .ok (.aload_n 2, 1) := by decide +kernel
theorem d39_38 : decode k39 38 = .ok (.arraylength, 1) := by decide +kernel
theorem d39_39 : decode k39 39 = .ok (.if_icmp .lt 11, 3) := by decide +kernel
theorem d39_50 : decode k39 50 = .ok (.aload_n 0, 1) := by decide +kernel
theorem d39_51 : decode k39 51 = .ok (.iload_n 1, 1) := by decide +kernel
theorem d39_52 : decode k39 52 = .ok (.iconst 1, 1) := by decide +kernel
theorem d39_53 : decode k39 53 = .ok (.iadd, 1) := by decide +kernel
theorem d39_54 : decode k39 54 = .ok (.putfield 25, 3) := by decide +kernel
theorem d39_57 : decode k39 57 = .ok (.aload_n 2, 1) := by decide +kernel
theorem d39_58 : decode k39 58 = .ok (.aload_n 0, 1) := by decide +kernel
theorem d39_59 : decode k39 59 = .ok (.iload_n 1, 1) := by decide +kernel
theorem d39_60 : decode k39 60 = .ok (.dup_x1, 1) := by decide +kernel
theorem d39_61 : decode k39 61 = .ok (.putfield 13, 3) := by decide +kernel
theorem d39_64 : decode k39 64 = .ok (.aaload, 1) := by decide +kernel
theorem d39_65 : decode k39 65 = .ok (.areturn, 1) := by decide +kernel
theorem d40_0 : decode k40 0 = .ok (.aload_n 0, 1) := by decide +kernel
theorem d40_1 : decode k40 1 = .ok (.getfield 1, 3) := by decide +kernel
theorem d40_4 : decode k40 4 = .ok (.getfield 17, 3) := by decide +kernel
theorem d40_7 : decode k40 7 = .ok (.aload_n 0, 1) := by decide +kernel
theorem d40_8 : decode k40 8 = .ok (.getfield 22, 3) := by decide +kernel
theorem d40_11 : decode k40 11 = .ok (.if_icmp .eq 11, 3) := by decide +kernel
theorem d40_22 : decode k40 22 = .ok (.return_, 1) := by decide +kernel
theorem d41_0 : decode k41 0 = .ok (.aload_n 0, 1) := by decide +kernel
theorem d41_1 : decode k41 1 = .ok (.getfield 35, 3) := by decide +kernel
theorem d41_4 : decode k41 4 = .ok (.ifCond .ne 7, 3) := by decide +kernel
theorem d41_7 : decode k41 7 = .ok (.iconst 1, 1) := by decide +kernel
theorem d41_8 : decode k41 8 = .ok (.goto 4, 3) := by decide +kernel
theorem d41_11 : decode k41 11 = .ok (.iconst 0, 1) := by decide +kernel
theorem d41_12 : decode k41 12 = .ok (.ireturn, 1) := by decide +kernel
theorem d42_0 : decode k42 0 = .ok (.iload_n 1, 1) := by decide +kernel
theorem d42_1 : decode k42 1 = .ok (.aload_n 0, 1) := by decide +kernel
theorem d42_2 : decode k42 2 = .ok (.getfield 48, 3) := by decide +kernel
theorem d42_5 : decode k42 5 = .ok (.invokestatic 118, 3) := by decide +kernel
theorem d42_8 : decode k42 8 = .ok (.pop, 1) := by decide +kernel
theorem d42_9 : decode k42 9 = .ok (.aload_n 0, 1) := by decide +kernel
theorem d42_10 : decode k42 10 = .ok (.iload_n 1, 1) := by decide +kernel
theorem d42_11 : decode k42 11 = .ok (.invokevirtual 123, 3) := by decide +kernel
theorem d42_14 : decode k42 14 = .ok (.areturn, 1) := by decide +kernel
theorem d43_0 : decode k43 0 = .ok (.iload_n 0, 1) := by decide +kernel
theorem d43_1 : decode k43 1 = .ok (.iload_n 1, 1) := by decide +kernel
theorem d43_2 : decode k43 2 = .ok (.aconst_null, 1) := by decide +kernel
theorem d43_3 : decode k43 3 = .ok (.invokestatic 105, 3) := by decide +kernel
theorem d43_6 : decode k43 6 = .ok (.ireturn, 1) := by decide +kernel
theorem d44_0 : decode k44 0 = .ok (.iload_n 0, 1) := by decide +kernel
theorem d44_1 : decode k44 1 = .ok (.ifCond .lt 8, 3) := by decide +kernel
theorem d44_4 : decode k44 4 = .ok (.iload_n 0, 1) := by decide +kernel
theorem d44_5 : decode k44 5 = .ok (.iload_n 1, 1) := by decide +kernel
theorem d44_6 : decode k44 6 = .ok (.if_icmp .lt 10, 3) := by decide +kernel
theorem d44_16 : decode k44 16 = .ok (.iload_n 0, 1) := by decide +kernel
theorem d44_17 : decode k44 17 = .ok (.ireturn, 1) := by decide +kernel
theorem d45_0 : decode k45 0 = .ok (.aload_n 0, 1) := by decide +kernel
theorem d45_1 : decode k45 1 = .ok (.getfield 9, 3) := by decide +kernel
theorem d45_4 : decode k45 4 = .ok (.iload_n 1, 1) := by decide +kernel
theorem d45_5 : decode k45 5 = .ok (.aaload, 1) := by decide +kernel
theorem d45_6 : decode k45 6 = .ok (.areturn, 1) := by decide +kernel
theorem d46_0 : decode k46 0 = .ok (.aload_n 0, 1) := by decide +kernel
theorem d46_1 : decode k46 1 = .ok (.invokespecial 1, 3) := by decide +kernel
theorem d46_4 : decode k46 4 = .ok (.aload_n 0, 1) := by decide +kernel
theorem d46_5 : decode k46 5 = .ok (.aload_n 1, 1) := by decide +kernel
theorem d46_6 : decode k46 6 = .ok (.invokestatic 7, 3) := by decide +kernel
theorem d46_9 : decode k46 9 = .ok (.putfield 13, 3) := by decide +kernel
theorem d46_12 : decode k46 12 = .ok (.aload_n 0, 1) := by decide +kernel
theorem d46_13 : decode k46 13 = .ok (.getstatic 19, 3) := by decide +kernel
theorem d46_16 : decode k46 16 = .ok (.putfield 24, 3) := by decide +kernel
theorem d46_19 : decode k46 19 = .ok (.return_, 1) := by decide +kernel
theorem d47_0 : decode k47 0 = .ok (.aload_n 0, 1) := by decide +kernel
theorem d47_1 : decode k47 1 = .ok (.getfield 24, 3) := by decide +kernel
theorem d47_4 : decode k47 4 = .ok (.getstatic 19, 3) := by decide +kernel
theorem d47_7 : decode k47 7 = .ok (.if_acmp .eq 7, 3) := by decide +kernel
theorem d47_10 : decode k47 10 = .ok (.iconst 2, 1) := by decide +kernel
theorem d47_11 : decode k47 11 = .ok (.goto 4, 3) := by decide +kernel
theorem d47_14 : decode k47 14 = .ok (.iconst 1, 1) := by decide +kernel
theorem d47_15 : decode k47 15 = .ok (.ireturn, 1) := by decide +kernel
theorem d48_0 : decode k48 0 = .ok (.iload_n 1, 1) := by decide +kernel
theorem d48_1 : decode k48 1 = .ok (.ifCond .ne 8, 3) := by decide +kernel
theorem d48_4 : decode k48 4 = .ok (.aload_n 0, 1) := by decide +kernel
theorem d48_5 : decode k48 5 = .ok (.getfield 13, 3) := by decide +kernel
theorem d48_8 : decode k48 8 = .ok (.areturn, 1) := by decide +kernel
theorem d48_9 : decode k48 9 = .ok (.iload_n 1, 1) := by decide +kernel
theorem d48_10 : decode k48 10 = .ok (.iconst 1, 1) := by decide +kernel
theorem d48_11 : decode k48 11 = .ok (.if_icmp .ne 18, 3) := by decide +kernel
theorem d48_14 : decode k48 14 = .ok (.aload_n 0, 1) := by decide +kernel
theorem d48_15 : decode k48 15 = .ok (.getfield 24, 3) := by decide +kernel
theorem d48_18 : decode k48 18 = .ok (.getstatic 19, 3) := by decide +kernel
theorem d48_21 : decode k48 21 = .ok (.if_acmp .eq 8, 3) := by decide +kernel
theorem d48_24 : decode k48 24 = .ok (.aload_n 0, 1) := by decide +kernel
theorem d48_25 : decode k48 25 = .ok (.getfield 24, 3) := by decide +kernel
theorem d48_28 : decode k48 28 = .ok (.areturn, 1) := by decide +kernel
theorem d49_0 : decode k49 0 = .ok (.aload_n 0, 1) := by decide +kernel
theorem d49_1 : decode k49 1 = .ok (.invokespecial 1, 3) := by decide +kernel
theorem d49_4 : decode k49 4 = .ok (.aload_n 0, 1) := by decide +kernel
theorem d49_5 : decode k49 5 = .ok (.aload_n 1, 1) := by decide +kernel
theorem d49_6 : decode k49 6 = .ok (.invokestatic 7, 3) := by decide +kernel
theorem d49_9 : decode k49 9 = .ok (.putfield 13, 3) := by decide +kernel
theorem d49_12 : decode k49 12 = .ok (.aload_n 0, 1) := by decide +kernel
theorem d49_13 : decode k49 13 = .ok (.aload_n 2, 1) := by decide +kernel
theorem d49_14 : decode k49 14 = .ok (.invokestatic 7, 3) := by decide +kernel
theorem d49_17 : decode k49 17 = .ok (.putfield 24, 3) := by decide +kernel
theorem d49_20 : decode k49 20 = .ok (.return_, 1) := by decide +kernel
theorem d50_0 : decode k50 0 = .ok (.aload_n 0, 1) := by decide +kernel
theorem d50_1 : decode k50 1 = .ok (.invokespecial 1, 3) := by decide +kernel
theorem d50_4 : decode k50 4 = .ok (.aload_n 0, 1) := by decide +kernel
theorem d50_5 : decode k50 5 = .ok (.aload_n 1, 1) := by decide +kernel
theorem d50_6 : decode k50 6 = .ok (.putfield 15, 3) := by decide +kernel
theorem d50_9 : decode k50 9 = .ok (.aload_n 0, 1) := by decide +kernel
theorem d50_10 : decode k50 10 = .ok (.aconst_null, 1) := by decide +kernel
theorem d50_11 : decode k50 11 = .ok (.putfield 27, 3) := by decide +kernel
theorem d50_14 : decode k50 14 = .ok (.aload_n 0, 1) := by decide +kernel
theorem d50_15 : decode k50 15 = .ok (.aload_n 2, 1) := by decide +kernel
theorem d50_16 : decode k50 16 = .ok (.putfield 38, 3) := by decide +kernel
theorem d50_19 : decode k50 19 = .ok (.aload_n 0, 1) := by decide +kernel
theorem d50_20 : decode k50 20 = .ok (.iload_n 3, 1) := by decide +kernel
theorem d50_21 : decode k50 21 = .ok (.putfield 35, 3) := by decide +kernel
theorem d50_24 : decode k50 24 = .ok (.return_, 1) := by decide +kernel
theorem pn_0 : plainName "java/util/Objects" = true := by first | (simp [plainName, overriddenIn]; done) | decide +kernel
theorem ef_12_R (m : MethodId) (x0 : Addr) : entryFrame m #[(.ref x0)] 1 = mkF m 0 #[.val (.ref x0)] [] := by first | (simp [entryFrame, mkF, argsToLocals, Value.category]; done) | rfl
theorem pd_2 : parseMethodDescriptor "(Ljava/lang/Object;)Ljava/lang/Object;" = some ⟨[(.object "java/lang/Object")], some (.object "java/lang/Object")⟩ := by decide +kernel
theorem pn_3 : plainName "java/util/ArrayList" = true := by first | (simp [plainName, overriddenIn]; done) | decide +kernel
theorem ef_15_R (m : MethodId) (x0 : Addr) : entryFrame m #[(.ref x0)] 1 = mkF m 0 #[.val (.ref x0)] [] := by first | (simp [entryFrame, mkF, argsToLocals, Value.category]; done) | rfl
theorem pd_5 : parseMethodDescriptor "()Z" = some ⟨[], some .boolean⟩ := by decide +kernel
theorem pn_6 : plainName "java/util/List" = true := by first | (simp [plainName, overriddenIn]; done) | decide +kernel
theorem ef_16_ (m : MethodId)  : entryFrame m #[] 0 = mkF m 0 #[] [] := by first | (simp [entryFrame, mkF, argsToLocals, Value.category]; done) | rfl
theorem pd_8 : parseMethodDescriptor "()Ljava/util/List;" = some ⟨[], some (.object "java/util/List")⟩ := by decide +kernel
theorem pn_9 : plainName "java/util/ImmutableCollections" = true := by first | (simp [plainName, overriddenIn]; done) | decide +kernel
theorem ef_14_R (m : MethodId) (x0 : Addr) : entryFrame m #[(.ref x0)] 2 = mkF m 0 #[.val (.ref x0), .unset] [] := by first | (simp [entryFrame, mkF, argsToLocals, Value.category]; done) | rfl
theorem pd_11 : parseMethodDescriptor "(Ljava/util/Collection;)Ljava/util/List;" = some ⟨[(.object "java/util/Collection")], some (.object "java/util/List")⟩ := by decide +kernel
theorem ef_13_R (m : MethodId) (x0 : Addr) : entryFrame m #[(.ref x0)] 1 = mkF m 0 #[.val (.ref x0)] [] := by first | (simp [entryFrame, mkF, argsToLocals, Value.category]; done) | rfl
theorem pn_13 : plainName "java/util/ImmutableCollections$ListN" = true := by first | (simp [plainName, overriddenIn]; done) | decide +kernel
theorem ef_17_R (m : MethodId) (x0 : Addr) : entryFrame m #[(.ref x0)] 1 = mkF m 0 #[.val (.ref x0)] [] := by first | (simp [entryFrame, mkF, argsToLocals, Value.category]; done) | rfl
theorem pd_15 : parseMethodDescriptor "()I" = some ⟨[], some .int⟩ := by decide +kernel
theorem pn_16 : plainName "java/util/ImmutableCollections$ListItr" = true := by first | (simp [plainName, overriddenIn]; done) | decide +kernel
theorem ef_19_RRI (m : MethodId) (x0 : Addr) (x1 : Addr) (x2 : Int32) : entryFrame m #[(.ref x0), (.ref x1), (.int x2)] 3 = mkF m 0 #[.val (.ref x0), .val (.ref x1), .val (.int x2)] [] := by first | (simp [entryFrame, mkF, argsToLocals, Value.category]; done) | rfl
theorem pd_18 : parseMethodDescriptor "(Ljava/util/List;I)V" = some ⟨[(.object "java/util/List"), .int], none⟩ := by decide +kernel
theorem pn_19 : plainName "java/util/ImmutableCollections$AbstractImmutableList" = true := by first | (simp [plainName, overriddenIn]; done) | decide +kernel
theorem ef_18_R (m : MethodId) (x0 : Addr) : entryFrame m #[(.ref x0)] 1 = mkF m 0 #[.val (.ref x0)] [] := by first | (simp [entryFrame, mkF, argsToLocals, Value.category]; done) | rfl
theorem pd_21 : parseMethodDescriptor "()Ljava/util/Iterator;" = some ⟨[], some (.object "java/util/Iterator")⟩ := by decide +kernel
theorem ef_20_R (m : MethodId) (x0 : Addr) : entryFrame m #[(.ref x0)] 1 = mkF m 0 #[.val (.ref x0)] [] := by first | (simp [entryFrame, mkF, argsToLocals, Value.category]; done) | rfl
theorem pn_23 : plainName "com/example/firm_warden/firmwarden/value/Bag" = true := by first | (simp [plainName, overriddenIn]; done) | decide +kernel
theorem ef_11_RRR (m : MethodId) (x0 : Addr) (x1 : Addr) (x2 : Addr) : entryFrame m #[(.ref x0), (.ref x1), (.ref x2)] 5 = mkF m 0 #[.val (.ref x0), .val (.ref x1), .val (.ref x2), .unset, .unset] [] := by first | (simp [entryFrame, mkF, argsToLocals, Value.category]; done) | rfl
theorem ef_24_II (m : MethodId) (x0 : Int32) (x1 : Int32) : entryFrame m #[(.int x0), (.int x1)] 2 = mkF m 0 #[.val (.int x0), .val (.int x1)] [] := by first | (simp [entryFrame, mkF, argsToLocals, Value.category]; done) | rfl
theorem pd_26 : parseMethodDescriptor "(II)I" = some ⟨[.int, .int], some .int⟩ := by decide +kernel
theorem pn_27 : plainName "java/util/Arrays" = true := by first | (simp [plainName, overriddenIn]; done) | decide +kernel
theorem ef_23_RIR (m : MethodId) (x0 : Addr) (x1 : Int32) (x2 : Addr) : entryFrame m #[(.ref x0), (.int x1), (.ref x2)] 4 = mkF m 0 #[.val (.ref x0), .val (.int x1), .val (.ref x2), .unset] [] := by first | (simp [entryFrame, mkF, argsToLocals, Value.category]; done) | rfl
theorem pd_29 : parseMethodDescriptor "([Ljava/lang/Object;ILjava/lang/Class;)[Ljava/lang/Object;" = some ⟨[(.array (.object "java/lang/Object")), .int, (.object "java/lang/Class")], some (.array (.object "java/lang/Object"))⟩ := by decide +kernel
theorem ef_22_RI (m : MethodId) (x0 : Addr) (x1 : Int32) : entryFrame m #[(.ref x0), (.int x1)] 2 = mkF m 0 #[.val (.ref x0), .val (.int x1)] [] := by first | (simp [entryFrame, mkF, argsToLocals, Value.category]; done) | rfl
theorem pd_31 : parseMethodDescriptor "([Ljava/lang/Object;I)[Ljava/lang/Object;" = some ⟨[(.array (.object "java/lang/Object")), .int], some (.array (.object "java/lang/Object"))⟩ := by decide +kernel
theorem ef_21_R (m : MethodId) (x0 : Addr) : entryFrame m #[(.ref x0)] 1 = mkF m 0 #[.val (.ref x0)] [] := by first | (simp [entryFrame, mkF, argsToLocals, Value.category]; done) | rfl
theorem pd_33 : parseMethodDescriptor "()[Ljava/lang/Object;" = some ⟨[], some (.array (.object "java/lang/Object"))⟩ := by decide +kernel
theorem pn_34 : plainName "java/util/AbstractCollection" = true := by first | (simp [plainName, overriddenIn]; done) | decide +kernel
theorem ef_3_R (m : MethodId) (x0 : Addr) : entryFrame m #[(.ref x0)] 1 = mkF m 0 #[.val (.ref x0)] [] := by first | (simp [entryFrame, mkF, argsToLocals, Value.category]; done) | rfl
theorem pd_36 : parseMethodDescriptor "()V" = some ⟨[], none⟩ := by decide +kernel
theorem pn_37 : plainName "java/util/ImmutableCollections$AbstractImmutableCollection" = true := by first | (simp [plainName, overriddenIn]; done) | decide +kernel
theorem ef_29_R (m : MethodId) (x0 : Addr) : entryFrame m #[(.ref x0)] 1 = mkF m 0 #[.val (.ref x0)] [] := by first | (simp [entryFrame, mkF, argsToLocals, Value.category]; done) | rfl
theorem ef_28_R (m : MethodId) (x0 : Addr) : entryFrame m #[(.ref x0)] 1 = mkF m 0 #[.val (.ref x0)] [] := by first | (simp [entryFrame, mkF, argsToLocals, Value.category]; done) | rfl
theorem pn_40 : plainName "java/util/ImmutableCollections$List12" = true := by first | (simp [plainName, overriddenIn]; done) | decide +kernel
theorem ef_46_RR (m : MethodId) (x0 : Addr) (x1 : Addr) : entryFrame m #[(.ref x0), (.ref x1)] 2 = mkF m 0 #[.val (.ref x0), .val (.ref x1)] [] := by first | (simp [entryFrame, mkF, argsToLocals, Value.category]; done) | rfl
theorem pd_42 : parseMethodDescriptor "(Ljava/lang/Object;)V" = some ⟨[(.object "java/lang/Object")], none⟩ := by decide +kernel
theorem ef_25_R (m : MethodId) (x0 : Addr) : entryFrame m #[(.ref x0)] 2 = mkF m 0 #[.val (.ref x0), .unset] [] := by first | (simp [entryFrame, mkF, argsToLocals, Value.category]; done) | rfl
theorem pd_44 : parseMethodDescriptor "([Ljava/lang/Object;)Ljava/util/List;" = some ⟨[(.array (.object "java/lang/Object"))], some (.object "java/util/List")⟩ := by decide +kernel
theorem ef_47_R (m : MethodId) (x0 : Addr) : entryFrame m #[(.ref x0)] 1 = mkF m 0 #[.val (.ref x0)] [] := by first | (simp [entryFrame, mkF, argsToLocals, Value.category]; done) | rfl
theorem ef_48_RI (m : MethodId) (x0 : Addr) (x1 : Int32) : entryFrame m #[(.ref x0), (.int x1)] 2 = mkF m 0 #[.val (.ref x0), .val (.int x1)] [] := by first | (simp [entryFrame, mkF, argsToLocals, Value.category]; done) | rfl
theorem pd_47 : parseMethodDescriptor "(I)Ljava/lang/Object;" = some ⟨[.int], some (.object "java/lang/Object")⟩ := by decide +kernel
theorem ef_30_R (m : MethodId) (x0 : Addr) : entryFrame m #[(.ref x0)] 3 = mkF m 0 #[.val (.ref x0), .unset, .unset] [] := by first | (simp [entryFrame, mkF, argsToLocals, Value.category]; done) | rfl
theorem pd_49 : parseMethodDescriptor "()Ljava/lang/Object;" = some ⟨[], some (.object "java/lang/Object")⟩ := by decide +kernel
theorem pn_50 : plainName "com/example/firm_warden/firmwarden/value/AttributeValue" = true := by first | (simp [plainName, overriddenIn]; done) | decide +kernel
theorem ef_32_R (m : MethodId) (x0 : Addr) : entryFrame m #[(.ref x0)] 1 = mkF m 0 #[.val (.ref x0)] [] := by first | (simp [entryFrame, mkF, argsToLocals, Value.category]; done) | rfl
theorem pd_52 : parseMethodDescriptor "()Lcom/example/firm_warden/firmwarden/value/DataType;" = some ⟨[], some (.object "com/example/firm_warden/firmwarden/value/DataType")⟩ := by decide +kernel
theorem ef_49_RRR (m : MethodId) (x0 : Addr) (x1 : Addr) (x2 : Addr) : entryFrame m #[(.ref x0), (.ref x1), (.ref x2)] 3 = mkF m 0 #[.val (.ref x0), .val (.ref x1), .val (.ref x2)] [] := by first | (simp [entryFrame, mkF, argsToLocals, Value.category]; done) | rfl
theorem pd_54 : parseMethodDescriptor "(Ljava/lang/Object;Ljava/lang/Object;)V" = some ⟨[(.object "java/lang/Object"), (.object "java/lang/Object")], none⟩ := by decide +kernel
theorem ef_27_RRI (m : MethodId) (x0 : Addr) (x1 : Addr) (x2 : Int32) : entryFrame m #[(.ref x0), (.ref x1), (.int x2)] 3 = mkF m 0 #[.val (.ref x0), .val (.ref x1), .val (.int x2)] [] := by first | (simp [entryFrame, mkF, argsToLocals, Value.category]; done) | rfl
theorem pd_56 : parseMethodDescriptor "([Ljava/lang/Object;Z)V" = some ⟨[(.array (.object "java/lang/Object")), .boolean], none⟩ := by decide +kernel
theorem ef_26_R (m : MethodId) (x0 : Addr) : entryFrame m #[(.ref x0)] 3 = mkF m 0 #[.val (.ref x0), .unset, .unset] [] := by first | (simp [entryFrame, mkF, argsToLocals, Value.category]; done) | rfl
theorem ef_31_RI (m : MethodId) (x0 : Addr) (x1 : Int32) : entryFrame m #[(.ref x0), (.int x1)] 2 = mkF m 0 #[.val (.ref x0), .val (.int x1)] [] := by first | (simp [entryFrame, mkF, argsToLocals, Value.category]; done) | rfl
theorem ef_34_R (m : MethodId) (x0 : Addr) : entryFrame m #[(.ref x0)] 1 = mkF m 0 #[.val (.ref x0)] [] := by first | (simp [entryFrame, mkF, argsToLocals, Value.category]; done) | rfl
theorem pn_60 : plainName "java/util/AbstractList" = true := by first | (simp [plainName, overriddenIn]; done) | decide +kernel
theorem ef_2_R (m : MethodId) (x0 : Addr) : entryFrame m #[(.ref x0)] 1 = mkF m 0 #[.val (.ref x0)] [] := by first | (simp [entryFrame, mkF, argsToLocals, Value.category]; done) | rfl
theorem ef_35_RI (m : MethodId) (x0 : Addr) (x1 : Int32) : entryFrame m #[(.ref x0), (.int x1)] 2 = mkF m 0 #[.val (.ref x0), .val (.int x1)] [] := by first | (simp [entryFrame, mkF, argsToLocals, Value.category]; done) | rfl
theorem pd_63 : parseMethodDescriptor "(I)V" = some ⟨[.int], none⟩ := by decide +kernel
theorem pn_64 : plainName "java/util/ArrayList$Itr" = true := by first | (simp [plainName, overriddenIn]; done) | decide +kernel
theorem ef_37_RR (m : MethodId) (x0 : Addr) (x1 : Addr) : entryFrame m #[(.ref x0), (.ref x1)] 2 = mkF m 0 #[.val (.ref x0), .val (.ref x1)] [] := by first | (simp [entryFrame, mkF, argsToLocals, Value.category]; done) | rfl
theorem pd_66 : parseMethodDescriptor "(Ljava/util/ArrayList;)V" = some ⟨[(.object "java/util/ArrayList")], none⟩ := by decide +kernel
theorem ef_36_R (m : MethodId) (x0 : Addr) : entryFrame m #[(.ref x0)] 1 = mkF m 0 #[.val (.ref x0)] [] := by first | (simp [entryFrame, mkF, argsToLocals, Value.category]; done) | rfl
theorem ef_38_R (m : MethodId) (x0 : Addr) : entryFrame m #[(.ref x0)] 1 = mkF m 0 #[.val (.ref x0)] [] := by first | (simp [entryFrame, mkF, argsToLocals, Value.category]; done) | rfl
theorem ef_40_R (m : MethodId) (x0 : Addr) : entryFrame m #[(.ref x0)] 1 = mkF m 0 #[.val (.ref x0)] [] := by first | (simp [entryFrame, mkF, argsToLocals, Value.category]; done) | rfl
theorem ef_39_R (m : MethodId) (x0 : Addr) : entryFrame m #[(.ref x0)] 3 = mkF m 0 #[.val (.ref x0), .unset, .unset] [] := by first | (simp [entryFrame, mkF, argsToLocals, Value.category]; done) | rfl
theorem ef_41_R (m : MethodId) (x0 : Addr) : entryFrame m #[(.ref x0)] 1 = mkF m 0 #[.val (.ref x0)] [] := by first | (simp [entryFrame, mkF, argsToLocals, Value.category]; done) | rfl
theorem ef_50_RRRI (m : MethodId) (x0 : Addr) (x1 : Addr) (x2 : Addr) (x3 : Int32) : entryFrame m #[(.ref x0), (.ref x1), (.ref x2), (.int x3)] 4 = mkF m 0 #[.val (.ref x0), .val (.ref x1), .val (.ref x2), .val (.int x3)] [] := by first | (simp [entryFrame, mkF, argsToLocals, Value.category]; done) | rfl
theorem pd_73 : parseMethodDescriptor "(Lcom/example/firm_warden/firmwarden/value/DataType;Ljava/util/List;I)V" = some ⟨[(.object "com/example/firm_warden/firmwarden/value/DataType"), (.object "java/util/List"), .int], none⟩ := by decide +kernel
theorem ef_33_RR (m : MethodId) (x0 : Addr) (x1 : Addr) : entryFrame m #[(.ref x0), (.ref x1)] 6 = mkF m 0 #[.val (.ref x0), .val (.ref x1), .unset, .unset, .unset, .unset] [] := by first | (simp [entryFrame, mkF, argsToLocals, Value.category]; done) | rfl
theorem ef_7_RRRI (m : MethodId) (x0 : Addr) (x1 : Addr) (x2 : Addr) (x3 : Int32) : entryFrame m #[(.ref x0), (.ref x1), (.ref x2), (.int x3)] 4 = mkF m 0 #[.val (.ref x0), .val (.ref x1), .val (.ref x2), .val (.int x3)] [] := by first | (simp [entryFrame, mkF, argsToLocals, Value.category]; done) | rfl
theorem pd_76 : parseMethodDescriptor "(Ljava/lang/Object;[Ljava/lang/Object;I)V" = some ⟨[(.object "java/lang/Object"), (.array (.object "java/lang/Object")), .int], none⟩ := by decide +kernel
theorem ef_6_RR (m : MethodId) (x0 : Addr) (x1 : Addr) : entryFrame m #[(.ref x0), (.ref x1)] 2 = mkF m 0 #[.val (.ref x0), .val (.ref x1)] [] := by first | (simp [entryFrame, mkF, argsToLocals, Value.category]; done) | rfl
theorem pd_78 : parseMethodDescriptor "(Ljava/lang/Object;)Z" = some ⟨[(.object "java/lang/Object")], some .boolean⟩ := by decide +kernel
theorem pn_79 : plainName "jdk/internal/util/Preconditions" = true := by first | (simp [plainName, overriddenIn]; done) | decide +kernel
theorem ef_44_IIN (m : MethodId) (x0 : Int32) (x1 : Int32) : entryFrame m #[(.int x0), (.int x1), .null] 3 = mkF m 0 #[.val (.int x0), .val (.int x1), .val .null] [] := by first | (simp [entryFrame, mkF, argsToLocals, Value.category]; done) | rfl
theorem pd_81 : parseMethodDescriptor "(IILjava/util/function/BiFunction;)I" = some ⟨[.int, .int, (.object "java/util/function/BiFunction")], some .int⟩ := by decide +kernel
theorem ef_43_II (m : MethodId) (x0 : Int32) (x1 : Int32) : entryFrame m #[(.int x0), (.int x1)] 2 = mkF m 0 #[.val (.int x0), .val (.int x1)] [] := by first | (simp [entryFrame, mkF, argsToLocals, Value.category]; done) | rfl
theorem ef_45_RI (m : MethodId) (x0 : Addr) (x1 : Int32) : entryFrame m #[(.ref x0), (.int x1)] 2 = mkF m 0 #[.val (.ref x0), .val (.int x1)] [] := by first | (simp [entryFrame, mkF, argsToLocals, Value.category]; done) | rfl
theorem ef_42_RI (m : MethodId) (x0 : Addr) (x1 : Int32) : entryFrame m #[(.ref x0), (.int x1)] 2 = mkF m 0 #[.val (.ref x0), .val (.int x1)] [] := by first | (simp [entryFrame, mkF, argsToLocals, Value.category]; done) | rfl
theorem ef_10_II (m : MethodId) (x0 : Int32) (x1 : Int32) : entryFrame m #[(.int x0), (.int x1)] 2 = mkF m 0 #[.val (.int x0), .val (.int x1)] [] := by first | (simp [entryFrame, mkF, argsToLocals, Value.category]; done) | rfl
theorem ef_9_RI (m : MethodId) (x0 : Addr) (x1 : Int32) : entryFrame m #[(.ref x0), (.int x1)] 4 = mkF m 0 #[.val (.ref x0), .val (.int x1), .unset, .unset] [] := by first | (simp [entryFrame, mkF, argsToLocals, Value.category]; done) | rfl
theorem pd_87 : parseMethodDescriptor "(I)[Ljava/lang/Object;" = some ⟨[.int], some (.array (.object "java/lang/Object"))⟩ := by decide +kernel
theorem ef_8_R (m : MethodId) (x0 : Addr) : entryFrame m #[(.ref x0)] 1 = mkF m 0 #[.val (.ref x0)] [] := by first | (simp [entryFrame, mkF, argsToLocals, Value.category]; done) | rfl
theorem pn_89 : plainName "com/example/firm_warden/firmwarden/value/BagIsEmptyPinLaw" = true := by first | (simp [plainName, overriddenIn]; done) | decide +kernel
theorem ef_5_II (m : MethodId) (x0 : Int32) (x1 : Int32) : entryFrame m #[(.int x0), (.int x1)] 2 = mkF m 0 #[.val (.int x0), .val (.int x1)] [] := by first | (simp [entryFrame, mkF, argsToLocals, Value.category]; done) | rfl
theorem ef_1_R (m : MethodId) (x0 : Addr) : entryFrame m #[(.ref x0)] 1 = mkF m 0 #[.val (.ref x0)] [] := by first | (simp [entryFrame, mkF, argsToLocals, Value.category]; done) | rfl
theorem pd_92 : parseMethodDescriptor "(II)Lcom/example/firm_warden/firmwarden/value/AttributeValue;" = some ⟨[.int, .int], some (.object "com/example/firm_warden/firmwarden/value/AttributeValue")⟩ := by decide +kernel
theorem pd_93 : parseMethodDescriptor "(Lcom/example/firm_warden/firmwarden/value/DataType;Ljava/util/List;)V" = some ⟨[(.object "com/example/firm_warden/firmwarden/value/DataType"), (.object "java/util/List")], none⟩ := by decide +kernel
theorem pd_94 : parseMethodDescriptor "(Lcom/example/firm_warden/firmwarden/value/DataType;Ljava/util/List;)Lcom/example/firm_warden/firmwarden/value/Bag;" = some ⟨[(.object "com/example/firm_warden/firmwarden/value/DataType"), (.object "java/util/List")], some (.object "com/example/firm_warden/firmwarden/value/Bag")⟩ := by decide +kernel
theorem ef_0_III (m : MethodId) (x0 : Int32) (x1 : Int32) (x2 : Int32) : entryFrame m #[(.int x0), (.int x1), (.int x2)] maxLocals = mkF m 0 #[.val (.int x0), .val (.int x1), .val (.int x2), .unset, .unset, .unset, .unset, .unset, .unset, .unset, .unset, .unset, .unset, .unset] [] := by first | (simp [entryFrame, mkF, argsToLocals, Value.category, maxLocals]; done) | rfl
theorem fo_0 : ((0 : Int32) + (1 : Int32)) = (1 : Int32) := by decide +kernel
theorem fo_1 : ((1 : Int32) + (1 : Int32)) = (2 : Int32) := by decide +kernel
theorem fo_2 : ((2 : Int32) + (1 : Int32)) = (3 : Int32) := by decide +kernel
theorem fo_3 : ((0 : Int32) + (0 : Int32)) = (0 : Int32) := by decide +kernel
theorem own_nsroot {Z : State} {a0 : Array Value} {O K : String} {n : Nat} (w : (Cond.noSuperclass O).before a0 Z = true) (wk : (Cond.instantiable K n).before a0 Z = true) (hn : O ≠ K) : NS Z O K := by
  obtain ⟨c, k, h1, h2, h3, -, -⟩ := Cond.noSuperclass_spec w
  obtain ⟨t, kt, g1, -⟩ := Cond.instantiable_spec wk
  refine ⟨c, t, h1, g1, fun fuel => ?_⟩
  have ne := ids_ne h1 g1 hn
  rcases fuel with _ | f
  · rfl
  · simp [Vm.isSubclassAux, ne, h2, h3]
theorem own_nsno {Z : State} {a0 : Array Value} {C S K : String} {n : Nat} (w : (Cond.superclass C S).before a0 Z = true) (wk : (Cond.instantiable K n).before a0 Z = true) (u : NS Z C K) (hn : C ≠ K) : ∃ c t, Z.vm.findClass C = some c ∧ Z.vm.findClass K = some t ∧ Z.vm.assignable c t = false := by
  obtain ⟨c, t, h0, g0, u3⟩ := u
  obtain ⟨-, k, -, -, h2, -, -, h5, -, -⟩ := Cond.superclass_spec h0 w
  obtain ⟨t', kt, g1, g2, g3, g4, -, -⟩ := Cond.instantiable_spec wk
  cases g0.symm.trans g1
  have g5 : kt.isInterface = false := by
    cases hq : kt.isInterface with
    | false => rfl
    | true => rw [hq] at g4; cases g4
  have ne := ids_ne h0 g0 hn
  refine ⟨c, t, h0, g0, ?_⟩
  show Z.vm.assignableAux (255 + 1) c t = false
  simp [Vm.assignableAux, ne, h2, g2, h5, g3, g5, Vm.isSubclass, u3]
abbrev own_HW (a0 : Array Value) (Z : State) : Prop := ∀ d ∈ tables_1, d.before a0 Z = true
abbrev own_Ct (l : Launch) (Z : State) (y : MethodName) (bytes : ByteArray) (mx : Nat) (rt : Option FieldType) (rm : Room) (as : Array Value) (h0 : Heap) (Q : Option Value → Heap → List Loc → Prop) : Prop :=
  MetFree l y (head1 [Jvm.Cond.code y bytes mx rt] rm) (fun a U => a = as ∧ Z.Warmed39 U.vm ∧ U.heap = h0) (fun _ _ _ _ _ => True) (fun _ U o U' => ∃ v L, o = .returned v ∧ Q v U'.heap L ∧ FrameEnd U o U' L rm.cells rm.slots)
theorem own_enter {l : Launch} {Z : State} {y : MethodName} {own : String} {bytes : ByteArray} {mx : Nat} {rt : Option FieldType} {rm : Room} {as : Array Value} {h0 : Heap} {Q : Option Value → Heap → List Loc → Prop} (ho : y.cls = own) (hpl : plainFor y = true)
    (H : ∀ (p : Program) (e : Env) (s : State) (m : MethodId) (below : List Frame) (meth : Method) (c : Code) (s₁ : State), Stand p l e rm s m as below meth c s₁ [] 0 0 → p.tables.exec = Jvm.exec → c.code = bytes → c.maxLocals = mx → s.vm.findClass own = some m.cls → meth.name = y.name → meth.sig.returnType = rt → Z.Warmed39 s.vm → s₁.heap = h0 →
      ∃ (v : Option Value) (T : State) (L : List Loc) (k j : Nat), Stand p l e rm s m as below meth c T L k j ∧ (rt = none → v = none) ∧ Q v T.heap L ∧ k ≤ rm.cells ∧ j ≤ rm.slots ∧ ∀ fs, (∀ (f : JFrame) (acts : List Action), f.method = m → f.locked = none → f.entered = [] → (doReturn e (T.setTop f) acts v).1 = T.setFrames fs) → Steps p.tables e below (s₁.setTop (entryFrame m as mx)) (T.setFrames fs)) :
    own_Ct l Z y bytes mx rt rm as h0 Q := by
  refine MetFree.of_bodySF hpl hisR ?_
  intro p e s m args below meth c s₁ Bd hml0 hP hK
  obtain ⟨rfl, hZ, hh⟩ := hP
  obtain ⟨v, T, L, k, j, X, hv, hq, h1, h2, hs⟩ := H p e s m below meth c s₁ (Stand.of_body Bd) Bd.exec Bd.bytes hml0 (ho ▸ findClass_of_methodNamed Bd.named) (name_of_methodNamed Bd.named Bd.method).1 Bd.returns hZ (by rw [← hh, Bd.state]; rfl)
  obtain ⟨fs, hr, hrun, hended, hW, hsame⟩ := X.leave (v := v) (fun h => hv (Bd.returns ▸ h))
  exact ⟨_, _, hs fs hr, hrun, hended, _, _, rfl, hq, ⟨_, rfl⟩, hW, hsame.mono h1 h2⟩
def own_QB (Z : State) (r w : Addr) (n : Int32) (n0 : Nat) (h0 : Heap) (v : Option Value) (h : Heap) (L : List Loc) : Prop := v = none ∧ Fr n0 L ∧ Keep h0 h [r] ∧ Fld Z h r "com/example/firm_warden/firmwarden/value/Bag" "dataType" "Lcom/example/firm_warden/firmwarden/value/DataType;" (.ref w) ∧ Fld Z h r "com/example/firm_warden/firmwarden/value/Bag" "size" "I" (.int n) ∧ Fld Z h r "com/example/firm_warden/firmwarden/value/Bag" "parts" "Ljava/util/List;" .null
def own_QJ (Z : State) (n : Int32) (n0 : Nat) (h0 : Heap) (v : Option Value) (h : Heap) (L : List Loc) : Prop := ∃ b : Addr, v = some (.ref b) ∧ Fr n0 L ∧ Keep h0 h [] ∧ Exa Z h b "com/example/firm_warden/firmwarden/value/Bag" ∧ Fld Z h b "com/example/firm_warden/firmwarden/value/Bag" "size" "I" (.int n)
theorem own_ldcM {p : Program} {l : Launch} {e : Env} {R : Room} {s : State} {m : MethodId} {args : Array Value} {below : List Frame} {meth : Method} {c : Code} {T : State} {locs : List Loc} {cells slots : Nat} {Z : State} {a0 : Array Value} {h : Heap}
    (X : Stand p l e R s m args below meth c T locs cells slots) (hx : p.tables.exec = Jvm.exec) (hZ : Z.Warmed39 s.vm) {own C : String} {index : Nat} (hown : s.vm.findClass own = some m.cls) (w : (Jvm.Cond.classLink own index C).before a0 Z = true) (eT : T.heap = h) {mr : Addr} (M : Mir Z C mr) {g : JFrame} (hg : g.method = m) (hd : decode c.code g.pc = .ok (.ldc index, 2)) :
    ∃ T', Stand p l e R s m args below meth c T' locs cells slots ∧ T'.heap = h ∧ ∀ target, Steps p.tables e below (T'.setTop { g with pc := g.pc + 2, stack := .ref mr :: g.stack }) target → Steps p.tables e below (T.setTop g) target := by
  obtain ⟨cc, kc, m1, m2, m3, -⟩ := M
  obtain ⟨k', q, ek⟩ := hZ.alike.2.2 _ _ m2
  have ev : (Term.mirror C).eval args s none [] s = some (.ref mr) := by
    have q1 : s.vm.findClass C = some cc := by rw [hZ.alike.findClass]; exact m1
    have q2 : k'.mirror = some mr := by rw [ek]; exact m3
    simp [Term.eval, q1, q, q2]
  obtain ⟨vm', X', st⟩ := X.ldcMirror hx hown (mvT hZ w) ev hg hd
  exact ⟨_, X', eT, st⟩
theorem own_mvMN {Z s : State} {a0 args : Array Value} {own host : String} {index : Nat} {y : MethodName} (hZ : Z.Warmed39 s.vm) (w : (Jvm.Cond.methodLinkNest own index y host).before a0 Z = true) : (Jvm.Cond.methodLinkNest own index y host).before args s = true := (Cond.methodLinkNest_wide hZ w :)
theorem own_mvF {Z s : State} {a0 args : Array Value} {r n d : String} (hZ : Z.Warmed39 s.vm) (h1 : r ≠ "java/lang/invoke/MethodHandle" ∧ r ≠ "java/lang/invoke/VarHandle") (w : (Jvm.Cond.interfaceMethod r r n d).before a0 Z = true) : (Jvm.Cond.interfaceMethod r r n d).before args s = true := mvT hZ w (by
  show (r == r && r != "java/lang/invoke/MethodHandle" && r != "java/lang/invoke/VarHandle") = true
  simp [h1.1, h1.2])
theorem own_cS {p : Program} {l : Launch} {e : Env} {R : Room} {s : State} {m : MethodId} {args : Array Value} {below : List Frame} {meth : Method} {c : Code} {T : State} {locs : List Loc} {cells slots : Nat} {Z : State} {a0 : Array Value} {h : Heap} {own : String} {index : Nat} {bytes : ByteArray} {maxL mx : Nat} {ret : Option FieldType} {rm : Room} {as' : Array Value} {Q : Option Value → Heap → List Loc → Prop} {ps : List FieldType} {r : Option FieldType} {g : JFrame} {y : MethodName} (X : Stand p l e R s m args below meth c T locs cells slots) (hx : p.tables.exec = Jvm.exec) (hZ : Z.Warmed39 s.vm) (hown : s.vm.findClass own = some m.cls) (w1 : (Jvm.Cond.methodLink own index y).before a0 Z = true) (w2 : (Jvm.Cond.static y).before a0 Z = true) (w3 : (Jvm.Cond.initialized y.cls).before a0 Z = true) (w4 : (Jvm.Cond.code y bytes maxL ret).before a0 Z = true) (hM : own_Ct l Z y bytes maxL ret rm as' h Q) (eT : T.heap = h) (hd : decode c.code g.pc = .ok (.invokestatic index, 3)) (hml : c.maxLocals = mx) (hpd : parseMethodDescriptor y.desc = some ⟨ps, r⟩) (argsL rest : List Value) (hg : g.method = m := by rfl) (hsz : g.locals.size = mx := by rfl) (hln : argsL.length = ps.length := by rfl) (hst : g.stack = argsL.reverse ++ rest := by rfl) (has : argsL.toArray = as' := by rfl) (hl : 2 * g.monitorRoom + (rest.map fun v => v.category).sum + (maxL + 11) + rm.locals ≤ R.locals := by exact Nat.le_of_ble_eq_true rfl) (hf : rm.frames + 1 ≤ R.frames := by decide) (hc : cells + rm.cells ≤ R.cells := by decide) (hj : slots + rm.slots ≤ R.slots := by decide) (hy : y.cls ≠ "java/lang/invoke/MethodHandle" ∧ y.cls ≠ "java/lang/invoke/VarHandle" := by decide) : ∃ v T' L, Stand p l e R s m args below meth c T' (locs ++ L) (cells + rm.cells) (slots + rm.slots) ∧ Q v T'.heap L ∧ ∀ target, Steps p.tables e below (T'.setTop { g with pc := g.pc + 3, stack := v.toList ++ rest }) target → Steps p.tables e below (T.setTop g) target := by
  obtain ⟨v, _, ⟨T', L', k', n'⟩, -, X', ⟨Lc, hQ, l1, y1, z1⟩, st⟩ := Jvm.LawKit.callS X hx (y := y) hown (mvT hZ w1) (mvT hZ w2) (mvT hZ w3) (mvT hZ w4) hy (backOf (W := 2 * g.monitorRoom + (rest.map fun v => v.category).sum) hM hZ w4 w3 hf hl) hg (hsz.trans hml.symm) (lenOf hpd hln) hst (Nat.le_refl _) hd (fun _ _ => ⟨has, eT, hc, hj⟩)
  dsimp only [Pt.U, Pt.locs, Pt.cells, Pt.slots] at X' l1 y1 z1 st hQ
  subst l1 y1 z1
  exact ⟨v, T', Lc, X', hQ, st⟩
theorem own_cI {p : Program} {l : Launch} {e : Env} {R : Room} {s : State} {m : MethodId} {args : Array Value} {below : List Frame} {meth : Method} {c : Code} {T : State} {locs : List Loc} {cells slots : Nat} {Z : State} {a0 : Array Value} {h : Heap} {own : String} {index : Nat} {bytes : ByteArray} {maxL mx : Nat} {rm : Room} {as' : Array Value} {Q : Option Value → Heap → List Loc → Prop} {ps : List FieldType} {r : Option FieldType} {g : JFrame} {y : MethodName} {a : Addr} (X : Stand p l e R s m args below meth c T locs cells slots) (hx : p.tables.exec = Jvm.exec) (hZ : Z.Warmed39 s.vm) (hown : s.vm.findClass own = some m.cls) (hi : y.name = "<init>") (w1 : (Jvm.Cond.methodLink own index y).before a0 Z = true) (w2 : (Jvm.Cond.instanceMethod y).before a0 Z = true) (w3 : (Jvm.Cond.initialized y.cls).before a0 Z = true) (w4 : (Jvm.Cond.code y bytes maxL none).before a0 Z = true) (hM : own_Ct l Z y bytes maxL none rm as' h Q) (eT : T.heap = h) (hd : decode c.code g.pc = .ok (.invokespecial index, 3)) (hml : c.maxLocals = mx) (hpd : parseMethodDescriptor y.desc = some ⟨ps, r⟩) (argsL rest : List Value) (hg : g.method = m := by rfl) (hsz : g.locals.size = mx := by rfl) (hln : argsL.length = ps.length := by rfl) (hst : g.stack = argsL.reverse ++ .ref a :: rest := by rfl) (has : (.ref a :: argsL).toArray = as' := by rfl) (hl : 2 * g.monitorRoom + (rest.map fun v => v.category).sum + (maxL + 11) + rm.locals ≤ R.locals := by exact Nat.le_of_ble_eq_true rfl) (hf : rm.frames + 1 ≤ R.frames := by decide) (hc : cells + rm.cells ≤ R.cells := by decide) (hj : slots + rm.slots ≤ R.slots := by decide) (hy : y.cls ≠ "java/lang/invoke/MethodHandle" ∧ y.cls ≠ "java/lang/invoke/VarHandle" := by decide) : ∃ v T' L, Stand p l e R s m args below meth c T' (locs ++ L) (cells + rm.cells) (slots + rm.slots) ∧ Q v T'.heap L ∧ ∀ target, Steps p.tables e below (T'.setTop { g with pc := g.pc + 3, stack := v.toList ++ rest }) target → Steps p.tables e below (T.setTop g) target := by
  obtain ⟨v, _, ⟨T', L', k', n'⟩, -, X', ⟨Lc, hQ, l1, y1, z1⟩, st⟩ := X.specialBack hx (y := y) hi hown (mvT hZ w1) (mvT hZ w2) (mvT hZ w4) hy (backOf (W := 2 * g.monitorRoom + (rest.map fun v => v.category).sum) hM hZ w4 w3 hf hl) hg (hsz.trans hml.symm) (Steps.refl _) (lenOf hpd hln) hst (Nat.le_refl _) hd (fun _ _ => ⟨has, eT, hc, hj⟩)
  dsimp only [Pt.U, Pt.locs, Pt.cells, Pt.slots] at X' l1 y1 z1 st hQ
  subst l1 y1 z1
  exact ⟨v, T', Lc, X', hQ, fun _ k => st.trans k⟩
theorem own_cN {p : Program} {l : Launch} {e : Env} {R : Room} {s : State} {m : MethodId} {args : Array Value} {below : List Frame} {meth : Method} {c : Code} {T : State} {locs : List Loc} {cells slots : Nat} {Z : State} {a0 : Array Value} {h : Heap} {own : String} {index : Nat} {bytes : ByteArray} {maxL mx : Nat} {rm : Room} {as' : Array Value} {Q : Option Value → Heap → List Loc → Prop} {ps : List FieldType} {r : Option FieldType} {g : JFrame} {y : MethodName} {a : Addr} {host : String} (X : Stand p l e R s m args below meth c T locs cells slots) (hx : p.tables.exec = Jvm.exec) (hZ : Z.Warmed39 s.vm) (hown : s.vm.findClass own = some m.cls) (hi : y.name = "<init>") (w1 : (Jvm.Cond.methodLinkNest own index y host).before a0 Z = true) (w2 : (Jvm.Cond.instanceMethod y).before a0 Z = true) (w3 : (Jvm.Cond.initialized y.cls).before a0 Z = true) (w4 : (Jvm.Cond.code y bytes maxL none).before a0 Z = true) (hM : own_Ct l Z y bytes maxL none rm as' h Q) (eT : T.heap = h) (hd : decode c.code g.pc = .ok (.invokespecial index, 3)) (hml : c.maxLocals = mx) (hpd : parseMethodDescriptor y.desc = some ⟨ps, r⟩) (argsL rest : List Value) (hg : g.method = m := by rfl) (hsz : g.locals.size = mx := by rfl) (hln : argsL.length = ps.length := by rfl) (hst : g.stack = argsL.reverse ++ .ref a :: rest := by rfl) (has : (.ref a :: argsL).toArray = as' := by rfl) (hl : 2 * g.monitorRoom + (rest.map fun v => v.category).sum + (maxL + 11) + rm.locals ≤ R.locals := by exact Nat.le_of_ble_eq_true rfl) (hf : rm.frames + 1 ≤ R.frames := by decide) (hc : cells + rm.cells ≤ R.cells := by decide) (hj : slots + rm.slots ≤ R.slots := by decide) (hy : y.cls ≠ "java/lang/invoke/MethodHandle" ∧ y.cls ≠ "java/lang/invoke/VarHandle" := by decide) : ∃ v T' L, Stand p l e R s m args below meth c T' (locs ++ L) (cells + rm.cells) (slots + rm.slots) ∧ Q v T'.heap L ∧ ∀ target, Steps p.tables e below (T'.setTop { g with pc := g.pc + 3, stack := v.toList ++ rest }) target → Steps p.tables e below (T.setTop g) target := by
  obtain ⟨v, _, ⟨T', L', k', n'⟩, -, X', ⟨Lc, hQ, l1, y1, z1⟩, st⟩ := X.specialBackNest hx (y := y) hi hown (own_mvMN hZ w1) (mvT hZ w2) (mvT hZ w4) hy (backOf (W := 2 * g.monitorRoom + (rest.map fun v => v.category).sum) hM hZ w4 w3 hf hl) hg (hsz.trans hml.symm) (Steps.refl _) (lenOf hpd hln) hst (Nat.le_refl _) hd (fun _ _ => ⟨has, eT, hc, hj⟩)
  dsimp only [Pt.U, Pt.locs, Pt.cells, Pt.slots] at X' l1 y1 z1 st hQ
  subst l1 y1 z1
  exact ⟨v, T', Lc, X', hQ, fun _ k => st.trans k⟩
theorem own_cV {p : Program} {l : Launch} {e : Env} {R : Room} {s : State} {m : MethodId} {args : Array Value} {below : List Frame} {meth : Method} {c : Code} {T : State} {locs : List Loc} {cells slots : Nat} {Z : State} {a0 : Array Value} {h : Heap} {own : String} {index : Nat} {bytes : ByteArray} {maxL mx : Nat} {ret : Option FieldType} {rm : Room} {as' : Array Value} {Q : Option Value → Heap → List Loc → Prop} {ps : List FieldType} {r : Option FieldType} {g : JFrame} {y z : MethodName} {a : Addr} {C : String} (X : Stand p l e R s m args below meth c T locs cells slots) (hx : p.tables.exec = Jvm.exec) (hZ : Z.Warmed39 s.vm) (hown : s.vm.findClass own = some m.cls) (nf : NotFace s y) (w1 : (Jvm.Cond.methodLink own index y).before a0 Z = true) (w2 : (Jvm.Cond.declares y).before a0 Z = true) (w5 : (Jvm.Cond.selects C y z).before a0 Z = true) (w6 : (Jvm.Cond.instanceMethod z).before a0 Z = true) (w3 : (Jvm.Cond.initialized z.cls).before a0 Z = true) (w4 : (Jvm.Cond.code z bytes maxL ret).before a0 Z = true) (E : Exa Z h a C) (hM : own_Ct l Z z bytes maxL ret rm as' h Q) (eT : T.heap = h) (hd : decode c.code g.pc = .ok (.invokevirtual index, 3)) (hml : c.maxLocals = mx) (hpd : parseMethodDescriptor y.desc = some ⟨ps, r⟩) (argsL rest : List Value) (hg : g.method = m := by rfl) (hsz : g.locals.size = mx := by rfl) (hln : argsL.length = ps.length := by rfl) (hst : g.stack = argsL.reverse ++ .ref a :: rest := by rfl) (has : (.ref a :: argsL).toArray = as' := by rfl) (hl : 2 * g.monitorRoom + (rest.map fun v => v.category).sum + (maxL + 11) + rm.locals ≤ R.locals := by exact Nat.le_of_ble_eq_true rfl) (hf : rm.frames + 1 ≤ R.frames := by decide) (hc : cells + rm.cells ≤ R.cells := by decide) (hj : slots + rm.slots ≤ R.slots := by decide) (hy : y.cls ≠ "java/lang/invoke/MethodHandle" ∧ y.cls ≠ "java/lang/invoke/VarHandle" := by decide) : ∃ v T' L, Stand p l e R s m args below meth c T' (locs ++ L) (cells + rm.cells) (slots + rm.slots) ∧ Q v T'.heap L ∧ ∀ target, Steps p.tables e below (T'.setTop { g with pc := g.pc + 3, stack := v.toList ++ rest }) target → Steps p.tables e below (T.setTop g) target := by
  obtain ⟨cq, kq, qa, qb, qc⟩ := isOf hZ eT E
  obtain ⟨v, _, ⟨T', L', k', n'⟩, -, X', ⟨Lc, hQ, l1, y1, z1⟩, st⟩ := X.virtualBack hx (y := y) (z := z) hown (mvT hZ w1) (mvT hZ w2) nf (mvT hZ w5) (mvT hZ w6) hy (backOf (W := 2 * g.monitorRoom + (rest.map fun v => v.category).sum) hM hZ w4 w3 hf hl) qa qc hg (hsz.trans hml.symm) (Steps.refl _) (lenOf hpd hln) hst (Nat.le_refl _) hd (fun _ _ => ⟨has, eT, hc, hj⟩)
  dsimp only [Pt.U, Pt.locs, Pt.cells, Pt.slots] at X' l1 y1 z1 st hQ
  subst l1 y1 z1
  exact ⟨v, T', Lc, X', hQ, fun _ k => st.trans k⟩
theorem own_cU {p : Program} {l : Launch} {e : Env} {R : Room} {s : State} {m : MethodId} {args : Array Value} {below : List Frame} {meth : Method} {c : Code} {T : State} {locs : List Loc} {cells slots : Nat} {Z : State} {a0 : Array Value} {h : Heap} {own : String} {index : Nat} {bytes : ByteArray} {maxL mx : Nat} {ret : Option FieldType} {rm : Room} {as' : Array Value} {Q : Option Value → Heap → List Loc → Prop} {ps : List FieldType} {r : Option FieldType} {g : JFrame} {y z : MethodName} {a : Addr} {C owner : String} (X : Stand p l e R s m args below meth c T locs cells slots) (hx : p.tables.exec = Jvm.exec) (hZ : Z.Warmed39 s.vm) (hown : s.vm.findClass own = some m.cls) (w1 : (Jvm.Cond.methodLink own index y).before a0 Z = true) (w7 : (Jvm.Cond.sameMethod y.cls owner y.name y.desc).before a0 Z = true) (w2 : (Jvm.Cond.declares ⟨owner, y.name, y.desc⟩).before a0 Z = true) (w5 : (Jvm.Cond.selects C y z).before a0 Z = true) (w6 : (Jvm.Cond.instanceMethod z).before a0 Z = true) (w3 : (Jvm.Cond.initialized z.cls).before a0 Z = true) (w4 : (Jvm.Cond.code z bytes maxL ret).before a0 Z = true) (ho : owner ≠ "java/lang/invoke/MethodHandle" ∧ owner ≠ "java/lang/invoke/VarHandle") (E : Exa Z h a C) (hM : own_Ct l Z z bytes maxL ret rm as' h Q) (eT : T.heap = h) (hd : decode c.code g.pc = .ok (.invokevirtual index, 3)) (hml : c.maxLocals = mx) (hpd : parseMethodDescriptor y.desc = some ⟨ps, r⟩) (argsL rest : List Value) (hg : g.method = m := by rfl) (hsz : g.locals.size = mx := by rfl) (hln : argsL.length = ps.length := by rfl) (hst : g.stack = argsL.reverse ++ .ref a :: rest := by rfl) (has : (.ref a :: argsL).toArray = as' := by rfl) (hl : 2 * g.monitorRoom + (rest.map fun v => v.category).sum + (maxL + 11) + rm.locals ≤ R.locals := by exact Nat.le_of_ble_eq_true rfl) (hf : rm.frames + 1 ≤ R.frames := by decide) (hc : cells + rm.cells ≤ R.cells := by decide) (hj : slots + rm.slots ≤ R.slots := by decide) (hy : y.cls ≠ "java/lang/invoke/MethodHandle" ∧ y.cls ≠ "java/lang/invoke/VarHandle" := by decide) : ∃ v T' L, Stand p l e R s m args below meth c T' (locs ++ L) (cells + rm.cells) (slots + rm.slots) ∧ Q v T'.heap L ∧ ∀ target, Steps p.tables e below (T'.setTop { g with pc := g.pc + 3, stack := v.toList ++ rest }) target → Steps p.tables e below (T.setTop g) target := by
  obtain ⟨cq, kq, qa, qb, qc⟩ := isOf hZ eT E
  obtain ⟨v, _, ⟨T', L', k', n'⟩, -, X', ⟨Lc, hQ, l1, y1, z1⟩, st⟩ := X.virtualBackUp hx (x := y) (y := z) (owner := owner) hown (mvT hZ w1) (mvT hZ w7) (mvT hZ w2) ho (mvT hZ w5) (mvT hZ w6) (backOf (W := 2 * g.monitorRoom + (rest.map fun v => v.category).sum) hM hZ w4 w3 hf hl) qa qc hg (hsz.trans hml.symm) (Steps.refl _) (lenOf hpd hln) hst (Nat.le_refl _) hd (fun _ _ => ⟨has, eT, hc, hj⟩)
  dsimp only [Pt.U, Pt.locs, Pt.cells, Pt.slots] at X' l1 y1 z1 st hQ
  subst l1 y1 z1
  exact ⟨v, T', Lc, X', hQ, fun _ k => st.trans k⟩
theorem own_cF {p : Program} {l : Launch} {e : Env} {R : Room} {s : State} {m : MethodId} {args : Array Value} {below : List Frame} {meth : Method} {c : Code} {T : State} {locs : List Loc} {cells slots : Nat} {Z : State} {a0 : Array Value} {h : Heap} {own : String} {index : Nat} {bytes : ByteArray} {maxL mx : Nat} {ret : Option FieldType} {rm : Room} {as' : Array Value} {Q : Option Value → Heap → List Loc → Prop} {ps : List FieldType} {r : Option FieldType} {g : JFrame} {y z : MethodName} {a : Addr} {C : String} {count : Nat} (X : Stand p l e R s m args below meth c T locs cells slots) (hx : p.tables.exec = Jvm.exec) (hZ : Z.Warmed39 s.vm) (hown : s.vm.findClass own = some m.cls) (w1 : (Jvm.Cond.methodLink own index y).before a0 Z = true) (w2 : (Jvm.Cond.declares y).before a0 Z = true) (w7 : (Jvm.Cond.interfaceMethod y.cls y.cls y.name y.desc).before a0 Z = true) (w5 : (Jvm.Cond.selects C y z).before a0 Z = true) (w6 : (Jvm.Cond.instanceMethod z).before a0 Z = true) (w8 : (Jvm.Cond.publicMethod z).before a0 Z = true) (w9 : (Jvm.Cond.unhidden C y.name y.desc).before a0 Z = true) (w10 : (Jvm.Cond.castable C y.cls).before a0 Z = true) (w3 : (Jvm.Cond.initialized z.cls).before a0 Z = true) (w4 : (Jvm.Cond.code z bytes maxL ret).before a0 Z = true) (E : Exa Z h a C) (hM : own_Ct l Z z bytes maxL ret rm as' h Q) (eT : T.heap = h) (hd : decode c.code g.pc = .ok (.invokeinterface index count, 5)) (hml : c.maxLocals = mx) (hpd : parseMethodDescriptor y.desc = some ⟨ps, r⟩) (argsL rest : List Value) (hg : g.method = m := by rfl) (hsz : g.locals.size = mx := by rfl) (hln : argsL.length = ps.length := by rfl) (hst : g.stack = argsL.reverse ++ .ref a :: rest := by rfl) (has : (.ref a :: argsL).toArray = as' := by rfl) (hl : 2 * g.monitorRoom + (rest.map fun v => v.category).sum + (maxL + 11) + rm.locals ≤ R.locals := by exact Nat.le_of_ble_eq_true rfl) (hf : rm.frames + 1 ≤ R.frames := by decide) (hc : cells + rm.cells ≤ R.cells := by decide) (hj : slots + rm.slots ≤ R.slots := by decide) (hy : y.cls ≠ "java/lang/invoke/MethodHandle" ∧ y.cls ≠ "java/lang/invoke/VarHandle" := by decide) : ∃ v T' L, Stand p l e R s m args below meth c T' (locs ++ L) (cells + rm.cells) (slots + rm.slots) ∧ Q v T'.heap L ∧ ∀ target, Steps p.tables e below (T'.setTop { g with pc := g.pc + 5, stack := v.toList ++ rest }) target → Steps p.tables e below (T.setTop g) target := by
  obtain ⟨cq, kq, qa, qb, qc⟩ := isOf hZ eT E
  obtain ⟨v, _, ⟨T', L', k', n'⟩, -, X', ⟨Lc, hQ, l1, y1, z1⟩, st⟩ := X.interfaceBack hx (xi := y) (y := z) hown (mvT hZ w1) (mvT hZ w2) (own_mvF hZ hy w7) (mvT hZ w5) (mvT hZ w6) (mvT hZ w8) (mvT hZ w9) (mvT hZ w10) hy (backOf (W := 2 * g.monitorRoom + (rest.map fun v => v.category).sum) hM hZ w4 w3 hf hl) qa qb qc hg (hsz.trans hml.symm) (Steps.refl _) (lenOf hpd hln) hst (Nat.le_refl _) hd (fun _ _ => ⟨has, eT, hc, hj⟩)
  dsimp only [Pt.U, Pt.locs, Pt.cells, Pt.slots] at X' l1 y1 z1 st hQ
  subst l1 y1 z1
  exact ⟨v, T', Lc, X', hQ, fun _ k => st.trans k⟩
theorem own_cP {p : Program} {l : Launch} {e : Env} {R : Room} {s : State} {m : MethodId} {args : Array Value} {below : List Frame} {meth : Method} {c : Code} {T : State} {locs : List Loc} {cells slots : Nat} {Z : State} {a0 : Array Value} {h : Heap} {own : String} {index : Nat} {bytes : ByteArray} {maxL mx : Nat} {ret : Option FieldType} {rm : Room} {as' : Array Value} {Q : Option Value → Heap → List Loc → Prop} {ps : List FieldType} {r : Option FieldType} {g : JFrame} {y : MethodName} {a : Addr} {C : String} (X : Stand p l e R s m args below meth c T locs cells slots) (hx : p.tables.exec = Jvm.exec) (hZ : Z.Warmed39 s.vm) (hown : s.vm.findClass own = some m.cls) (w1 : (Jvm.Cond.methodLink own index y).before a0 Z = true) (w2 : (Jvm.Cond.instanceMethod y).before a0 Z = true) (w5 : (Jvm.Cond.selects y.cls y y).before a0 Z = true) (w6 : (Jvm.Cond.privateMethod y).before a0 Z = true) (w3 : (Jvm.Cond.initialized y.cls).before a0 Z = true) (w4 : (Jvm.Cond.code y bytes maxL ret).before a0 Z = true) (E : Exa Z h a C) (hM : own_Ct l Z y bytes maxL ret rm as' h Q) (eT : T.heap = h) (hd : decode c.code g.pc = .ok (.invokevirtual index, 3)) (hml : c.maxLocals = mx) (hpd : parseMethodDescriptor y.desc = some ⟨ps, r⟩) (argsL rest : List Value) (hg : g.method = m := by rfl) (hsz : g.locals.size = mx := by rfl) (hln : argsL.length = ps.length := by rfl) (hst : g.stack = argsL.reverse ++ .ref a :: rest := by rfl) (has : (.ref a :: argsL).toArray = as' := by rfl) (hl : 2 * g.monitorRoom + (rest.map fun v => v.category).sum + (maxL + 11) + rm.locals ≤ R.locals := by exact Nat.le_of_ble_eq_true rfl) (hf : rm.frames + 1 ≤ R.frames := by decide) (hc : cells + rm.cells ≤ R.cells := by decide) (hj : slots + rm.slots ≤ R.slots := by decide) (hy : y.cls ≠ "java/lang/invoke/MethodHandle" ∧ y.cls ≠ "java/lang/invoke/VarHandle" := by decide) : ∃ v T' L, Stand p l e R s m args below meth c T' (locs ++ L) (cells + rm.cells) (slots + rm.slots) ∧ Q v T'.heap L ∧ ∀ target, Steps p.tables e below (T'.setTop { g with pc := g.pc + 3, stack := v.toList ++ rest }) target → Steps p.tables e below (T.setTop g) target := by
  obtain ⟨cq, q, q'⟩ := E.cell
  obtain ⟨v, _, ⟨T', L', k', n'⟩, -, X', ⟨Lc, hQ, l1, y1, z1⟩, st⟩ := X.privateBack hx (y := y) hown (mvT hZ w1) (mvT hZ w2) (mvT hZ w5) (Cond.privateMethod_at (mvP hZ w6 (args := #[]))) (mvT hZ w4) hy (backOf (W := 2 * g.monitorRoom + (rest.map fun v => v.category).sum) hM hZ w4 w3 hf hl) hg (hsz.trans hml.symm) (Steps.refl _) (by rw [eT]; exact q) q' (lenOf hpd hln) hst (Nat.le_refl _) hd (fun _ _ => ⟨has, eT, hc, hj⟩)
  dsimp only [Pt.U, Pt.locs, Pt.cells, Pt.slots] at X' l1 y1 z1 st hQ
  subst l1 y1 z1
  exact ⟨v, T', Lc, X', hQ, fun _ k => st.trans k⟩
abbrev sN0 : String := "java/util/ArrayList"
abbrev sN1 : String := "java/lang/Object"
abbrev sN2 : String := "com/example/firm_warden/firmwarden/value/Bag"
abbrev sN3 : String := "java/util/List"
abbrev sN4 : String := "[Ljava/lang/Object;"
abbrev sN5 : String := "java/util/ImmutableCollections$ListItr"
abbrev sN6 : String := "java/util/ImmutableCollections$List12"
abbrev sN7 : String := "java/util/ImmutableCollections$ListN"
abbrev sN8 : String := "java/util/ArrayList$Itr"
abbrev sN9 : String := "com/example/firm_warden/firmwarden/value/AttributeValue"
abbrev sN10 : String := "Ljava/util/List;"
abbrev sN11 : String := "Ljava/lang/Object;"
abbrev sN12 : String := "com/example/firm_warden/firmwarden/value/DataType"
abbrev sN13 : String := "java/util/AbstractList"
abbrev sN14 : String := "java/util/ImmutableCollections"
abbrev sN15 : String := "Lcom/example/firm_warden/firmwarden/value/DataType;"
abbrev sN16 : String := "()Ljava/lang/Object;"
abbrev sN17 : String := "com/example/firm_warden/firmwarden/value/BagIsEmptyPinLaw"
abbrev sN18 : String := "(I)Ljava/lang/Object;"
abbrev sN19 : String := "isListIterator"
abbrev sN20 : String := "java/util/Arrays"
abbrev sN21 : String := "java/util/ImmutableCollections$AbstractImmutableList"
abbrev sN22 : String := "java/util/Iterator"
abbrev sN23 : String := "(Ljava/lang/Object;)Z"
abbrev sN24 : String := "()Ljava/util/Iterator;"
abbrev sN25 : String := "java/util/Objects"
abbrev sN26 : String := "()[Ljava/lang/Object;"
abbrev sN27 : String := "java/lang/Math"
abbrev sN28 : String := " (.int (2 : Int32)) ∧ Fld Z h r1 "
abbrev sN29 : String := "java/util/AbstractCollection"
abbrev sN30 : String := "(Ljava/util/Collection;)Ljava/util/List;"
abbrev sN31 : String := "DEFAULTCAPACITY_EMPTY_ELEMENTDATA"
abbrev sN32 : String := "Ljava/util/ArrayList;"
abbrev sN33 : String := "(Ljava/lang/Object;[Ljava/lang/Object;I)V"
abbrev sN34 : String := "Ljava/util/ImmutableCollections$ListN;"
abbrev sN35 : String := " (.int (1 : Int32)) ∧ Fld Z h r1 "
abbrev sN36 : String := "java/util/Collection"
abbrev sN37 : String := "([Ljava/lang/Object;)Ljava/util/List;"
abbrev sN38 : String := "expectedModCount"
abbrev sN39 : String := " (.int (0 : Int32)) ∧ Fld Z h r1 "
abbrev sN40 : String := "requireNonNull"
abbrev sN41 : String := "(Ljava/lang/Object;)Ljava/lang/Object;"
abbrev sN42 : String := "⟩ : MethodName) (⟨"
abbrev sN43 : String := "()Lcom/example/firm_warden/firmwarden/value/DataType;"
abbrev sN44 : String := " (.int (0 : Int32))) (P2 : Fld Z h0 r1 "
abbrev sN45 : String := " (.int (2 : Int32))) (P3 : Fld Z h0 r1 "
abbrev sN46 : String := " (.int (3 : Int32)) ∧ Fld Z h r1 "
abbrev sN47 : String := "(Lcom/example/firm_warden/firmwarden/value/DataType;Ljava/util/List;)V"
abbrev sN48 : String := "(Lcom/example/firm_warden/firmwarden/value/DataType;Ljava/util/List;)Lcom/example/firm_warden/firmwarden/value/Bag;"
abbrev sN49 : String := " (.int (0 : Int32))) (P5 : Fld Z h0 r1 "
abbrev sN50 : String := ") (P3 : Fld Z h0 r1 "
abbrev sN51 : String := "(I)[Ljava/lang/Object;"
abbrev sN52 : String := "(Ljava/util/List;I)V"
abbrev sN53 : String := "([Ljava/lang/Object;I)[Ljava/lang/Object;"
abbrev sN54 : String := "([Ljava/lang/Object;ILjava/lang/Class;)[Ljava/lang/Object;"
abbrev sN55 : String := "java/util/ImmutableCollections$AbstractImmutableCollection"
abbrev sN56 : String := "checkForComodification"
abbrev sN57 : String := " (.int (2 : Int32))) (P4 : Fld Z h0 r1 "
abbrev sN58 : String := "(II)Lcom/example/firm_warden/firmwarden/value/AttributeValue;"
abbrev sN59 : String := "Lcom/example/firm_warden/firmwarden/value/AttributeValue;"
abbrev sN60 : String := "()Ljava/lang/Class;"
abbrev sN61 : String := "jdk/internal/util/Preconditions"
abbrev sN62 : String := " (.int (0 : Int32))) (P4 : Fld Z h0 r1 "
abbrev sN63 : String := " (.int (1 : Int32))) (P2 : Fld Z h0 r1 "
abbrev sN64 : String := "(Ljava/lang/Object;Ljava/lang/Object;)V"
abbrev sN65 : String := "(Lcom/example/firm_warden/firmwarden/value/DataType;Ljava/util/List;I)V"
abbrev sN66 : String := " (.int (0 : Int32)) ∧ Fld Z h b1 "
abbrev sN67 : String := "⟩ : MethodName) (head1 [Jvm.Cond.code (⟨"
abbrev sN68 : String := " (.int (0 : Int32))) (P3 : Fld Z h0 r1 "
abbrev sN69 : String := " (.int (1 : Int32))) (P6 : Exa Z h0 r1 "
abbrev sN70 : String := ") (P8 : Fld Z h0 r1 "
abbrev yN0 : MethodName := (⟨sN5, "next", sN16⟩ : MethodName)
abbrev yN1 : MethodName := (⟨sN0, "add", sN23⟩ : MethodName)
abbrev yN2 : MethodName := (⟨sN5, "hasNext", "()Z"⟩ : MethodName)
abbrev yN3 : MethodName := (⟨sN0, "add", sN33⟩ : MethodName)
abbrev yN4 : MethodName := (⟨sN27, "min", "(II)I"⟩ : MethodName)
abbrev yN5 : MethodName := (⟨sN25, sN40, sN41⟩ : MethodName)
abbrev yN6 : MethodName := (⟨sN22, "next", sN16⟩ : MethodName)
abbrev yN7 : MethodName := (⟨sN2, "isEmpty", "()Z"⟩ : MethodName)
abbrev yN8 : MethodName := (⟨sN21, "iterator", sN24⟩ : MethodName)
abbrev yN9 : MethodName := (⟨sN9, "dataType", sN43⟩ : MethodName)
abbrev yN10 : MethodName := (⟨sN2, "<init>", sN47⟩ : MethodName)
abbrev yN11 : MethodName := (⟨sN3, "copyOf", sN30⟩ : MethodName)
abbrev yN12 : MethodName := (⟨sN14, "listCopy", sN30⟩ : MethodName)
abbrev yN13 : MethodName := (⟨sN0, "isEmpty", "()Z"⟩ : MethodName)
abbrev yN14 : MethodName := (⟨sN0, "toArray", sN26⟩ : MethodName)
abbrev yN15 : MethodName := (⟨sN2, "joined", sN48⟩ : MethodName)
abbrev yN16 : MethodName := (⟨sN0, "grow", sN26⟩ : MethodName)
abbrev yN17 : MethodName := (⟨sN0, "grow", sN51⟩ : MethodName)
abbrev yN18 : MethodName := (⟨sN7, "size", "()I"⟩ : MethodName)
abbrev yN19 : MethodName := (⟨sN5, "<init>", sN52⟩ : MethodName)
abbrev yN20 : MethodName := (⟨sN20, "copyOf", sN53⟩ : MethodName)
abbrev yN21 : MethodName := (⟨sN20, "copyOf", sN54⟩ : MethodName)
abbrev yN22 : MethodName := (⟨sN3, "of", sN37⟩ : MethodName)
abbrev yN23 : MethodName := (⟨sN7, "get", sN18⟩ : MethodName)
abbrev yN24 : MethodName := (⟨sN0, "size", "()I"⟩ : MethodName)
abbrev yN25 : MethodName := (⟨sN8, "hasNext", "()Z"⟩ : MethodName)
abbrev yN26 : MethodName := (⟨sN8, sN56, "()V"⟩ : MethodName)
abbrev yN27 : MethodName := (⟨sN0, "elementData", sN18⟩ : MethodName)
abbrev yN28 : MethodName := (⟨sN6, "size", "()I"⟩ : MethodName)
abbrev yN29 : MethodName := (⟨sN1, "<init>", "()V"⟩ : MethodName)
abbrev yN30 : MethodName := (⟨sN17, "pick", sN58⟩ : MethodName)
abbrev yN31 : MethodName := (⟨sN1, "getClass", sN60⟩ : MethodName)
abbrev yN32 : MethodName := (⟨sN3, "get", sN18⟩ : MethodName)
abbrev yN33 : MethodName := (⟨sN8, "next", sN16⟩ : MethodName)
abbrev yN34 : MethodName := (⟨sN6, "get", sN18⟩ : MethodName)
abbrev yN35 : MethodName := (⟨sN29, "<init>", "()V"⟩ : MethodName)
abbrev yN36 : MethodName := (⟨sN27, "max", "(II)I"⟩ : MethodName)
abbrev yN37 : MethodName := (⟨sN3, "size", "()I"⟩ : MethodName)
abbrev yN38 : MethodName := (⟨sN3, "iterator", sN24⟩ : MethodName)
abbrev yN39 : MethodName := (⟨sN21, "<init>", "()V"⟩ : MethodName)
abbrev yN40 : MethodName := (⟨sN0, "iterator", sN24⟩ : MethodName)
abbrev yN41 : MethodName := (⟨sN0, "get", sN18⟩ : MethodName)
abbrev yN42 : MethodName := (⟨sN6, "<init>", sN64⟩ : MethodName)
abbrev yN43 : MethodName := (⟨sN2, "<init>", sN65⟩ : MethodName)
abbrev yN44 : MethodName := (⟨sN0, "<init>", "()V"⟩ : MethodName)
abbrev yN45 : MethodName := (⟨sN13, "<init>", "()V"⟩ : MethodName)
abbrev yN46 : MethodName := (⟨sN3, "of", "()Ljava/util/List;"⟩ : MethodName)
abbrev yN47 : MethodName := (⟨sN22, "hasNext", "()Z"⟩ : MethodName)
abbrev yN48 : MethodName := (⟨sN14, "listFromArray", sN37⟩ : MethodName)
abbrev yN49 : MethodName := (⟨sN7, "<init>", "([Ljava/lang/Object;Z)V"⟩ : MethodName)
abbrev yN50 : MethodName := (⟨sN55, "<init>", "()V"⟩ : MethodName)
abbrev yN51 : MethodName := (⟨sN0, "<init>", "(I)V"⟩ : MethodName)
abbrev yN52 : MethodName := (⟨sN8, "<init>", "(Ljava/util/ArrayList;)V"⟩ : MethodName)
abbrev yN53 : MethodName := (⟨sN25, "checkIndex", "(II)I"⟩ : MethodName)
abbrev yN54 : MethodName := (⟨sN61, "checkIndex", "(IILjava/util/function/BiFunction;)I"⟩ : MethodName)
abbrev yN55 : MethodName := (⟨sN6, "<init>", "(Ljava/lang/Object;)V"⟩ : MethodName)
abbrev yN56 : MethodName := (⟨sN36, "isEmpty", "()Z"⟩ : MethodName)
abbrev yN57 : MethodName := (⟨sN21, "size", "()I"⟩ : MethodName)
abbrev yN58 : MethodName := (⟨sN36, "toArray", sN26⟩ : MethodName)
abbrev yN59 : MethodName := (⟨"java/lang/System", "arraycopy", "(Ljava/lang/Object;ILjava/lang/Object;II)V"⟩ : MethodName)
abbrev yN60 : MethodName := (⟨sN3, "add", sN23⟩ : MethodName)
abbrev own_W (d : Cond) : Prop := ∀ {a0 : Array Value} {Z : State}, own_HW a0 Z → d.before a0 Z = true
theorem own_wi (i : Nat) {d : Cond} (h : tables_1[i]? = some d) : own_W d := fun hw => hw _ (List.mem_of_getElem? h)
theorem w0 : own_W (Cond.classLink sN17 (7 : Nat) sN0) := own_wi 0 rfl
theorem w1 : own_W (Cond.instantiable sN0 (3 : Nat)) := own_wi 1 rfl
theorem w2 : own_W (Cond.initialized sN0) := own_wi 2 rfl
theorem w3 : own_W (Cond.methodLink sN17 (9 : Nat) yN44) := own_wi 3 rfl
theorem w4 : own_W (Cond.instanceMethod yN44) := own_wi 4 rfl
theorem w5 : own_W (Cond.code yN44 jdk_38_method_2_code (1 : Nat) (Option.none : Option Jvm.ClassFile.FieldType)) := own_wi 5 rfl
theorem w6 : own_W (Cond.methodLink sN0 (1 : Nat) yN45) := own_wi 6 rfl
theorem w7 : own_W (Cond.instanceMethod yN45) := own_wi 7 rfl
theorem w10 : own_W (Cond.initialized sN13) := own_wi 10 rfl
theorem w11 : own_W (Cond.code yN45 jdk_39_method_1_code (1 : Nat) (Option.none : Option Jvm.ClassFile.FieldType)) := own_wi 11 rfl
theorem w12 : own_W (Cond.methodLink sN13 (1 : Nat) yN35) := own_wi 12 rfl
theorem w13 : own_W (Cond.instanceMethod yN35) := own_wi 13 rfl
theorem w16 : own_W (Cond.initialized sN29) := own_wi 16 rfl
theorem w17 : own_W (Cond.code yN35 jdk_22_method_1_code (1 : Nat) (Option.none : Option Jvm.ClassFile.FieldType)) := own_wi 17 rfl
theorem w18 : own_W (Cond.methodLink sN29 (1 : Nat) yN29) := own_wi 18 rfl
theorem w19 : own_W (Cond.instanceMethod yN29) := own_wi 19 rfl
theorem w20 : own_W (Cond.code yN29 object_method_1_code (1 : Nat) (Option.none : Option Jvm.ClassFile.FieldType)) := own_wi 20 rfl
theorem w21 : own_W (Cond.fieldLink sN13 (7 : Nat) sN13 "modCount" "I") := own_wi 21 rfl
theorem w22 : own_W (Cond.lays sN0 sN13 "modCount" "I") := own_wi 22 rfl
theorem w23 : own_W (Cond.fieldLink sN0 (39 : Nat) sN0 sN31 sN4) := own_wi 23 rfl
theorem w24 : own_W (Cond.fieldLink sN0 (9 : Nat) sN0 "elementData" sN4) := own_wi 24 rfl
theorem w25 : own_W (Cond.lays sN0 sN0 "elementData" sN4) := own_wi 25 rfl
theorem w26 : own_W (Cond.methodLink sN17 (10 : Nat) yN30) := own_wi 26 rfl
theorem w27 : own_W (Cond.static yN30) := own_wi 27 rfl
theorem w28 : own_W (Cond.initialized sN17) := own_wi 28 rfl
theorem w29 : own_W (Cond.code yN30 method_3_code (2 : Nat) (Option.some (Jvm.ClassFile.FieldType.object sN9))) := own_wi 29 rfl
theorem w30 : own_W (Cond.fieldLink sN17 (45 : Nat) sN9 "FALSE" sN59) := own_wi 30 rfl
theorem w31 : own_W (Cond.initialized sN9) := own_wi 31 rfl
theorem w33 : own_W (Cond.methodLink sN17 (16 : Nat) yN1) := own_wi 33 rfl
theorem w34 : own_W (Cond.declares yN1) := own_wi 34 rfl
theorem w35 : own_W (Cond.instanceMethod yN1) := own_wi 35 rfl
theorem w36 : own_W (Cond.selects sN0 yN1 yN1) := own_wi 36 rfl
theorem w37 : own_W (Cond.code yN1 jdk_38_method_25_code (2 : Nat) (Option.some Jvm.ClassFile.FieldType.boolean)) := own_wi 37 rfl
theorem w38 : own_W (Cond.fieldLink sN0 (63 : Nat) sN0 "modCount" "I") := own_wi 38 rfl
theorem w39 : own_W (Cond.sameField sN0 sN13 "modCount" "I") := own_wi 39 rfl
theorem w40 : own_W (Cond.fieldLink sN0 (48 : Nat) sN0 "size" "I") := own_wi 40 rfl
theorem w41 : own_W (Cond.lays sN0 sN0 "size" "I") := own_wi 41 rfl
theorem w42 : own_W (Cond.methodLink sN0 (131 : Nat) yN3) := own_wi 42 rfl
theorem w43 : own_W (Cond.instanceMethod yN3) := own_wi 43 rfl
theorem w44 : own_W (Cond.privateMethod yN3) := own_wi 44 rfl
theorem w45 : own_W (Cond.selects sN0 yN3 yN3) := own_wi 45 rfl
theorem w46 : own_W (Cond.code yN3 jdk_38_method_24_code (4 : Nat) (Option.none : Option Jvm.ClassFile.FieldType)) := own_wi 46 rfl
theorem w47 : own_W (Cond.methodLink sN0 (129 : Nat) yN16) := own_wi 47 rfl
theorem w48 : own_W (Cond.instanceMethod yN16) := own_wi 48 rfl
theorem w49 : own_W (Cond.privateMethod yN16) := own_wi 49 rfl
theorem w50 : own_W (Cond.selects sN0 yN16 yN16) := own_wi 50 rfl
theorem w51 : own_W (Cond.code yN16 jdk_38_method_7_code (1 : Nat) (Option.some (Jvm.ClassFile.FieldType.array (Jvm.ClassFile.FieldType.object sN1)))) := own_wi 51 rfl
theorem w52 : own_W (Cond.methodLink sN0 (69 : Nat) yN17) := own_wi 52 rfl
theorem w53 : own_W (Cond.instanceMethod yN17) := own_wi 53 rfl
theorem w54 : own_W (Cond.privateMethod yN17) := own_wi 54 rfl
theorem w55 : own_W (Cond.selects sN0 yN17 yN17) := own_wi 55 rfl
theorem w56 : own_W (Cond.code yN17 jdk_38_method_6_code (4 : Nat) (Option.some (Jvm.ClassFile.FieldType.array (Jvm.ClassFile.FieldType.object sN1)))) := own_wi 56 rfl
theorem w57 : own_W (Cond.methodLink sN0 (79 : Nat) yN36) := own_wi 57 rfl
theorem w58 : own_W (Cond.static yN36) := own_wi 58 rfl
theorem w59 : own_W (Cond.initialized sN27) := own_wi 59 rfl
theorem w60 : own_W (Cond.code yN36 jdk_29_method_65_code (2 : Nat) (Option.some Jvm.ClassFile.FieldType.int)) := own_wi 60 rfl
theorem w61 : own_W (Cond.classLink sN0 (7 : Nat) sN1) := own_wi 61 rfl
theorem w62 : own_W (Cond.arrayOver (Jvm.ClassFile.FieldType.object sN1)) := own_wi 62 rfl
theorem w63 : own_W (Cond.castable sN9 sN1) := own_wi 63 rfl
theorem w64 : own_W (Cond.classLink sN17 (20 : Nat) sN2) := own_wi 64 rfl
theorem w65 : own_W (Cond.instantiable sN2 (5 : Nat)) := own_wi 65 rfl
theorem w66 : own_W (Cond.initialized sN2) := own_wi 66 rfl
theorem w67 : own_W (Cond.fieldLink sN17 (22 : Nat) sN12 "BOOLEAN" sN15) := own_wi 67 rfl
theorem w70 : own_W (Cond.methodLink sN17 (28 : Nat) yN10) := own_wi 70 rfl
theorem w71 : own_W (Cond.instanceMethod yN10) := own_wi 71 rfl
theorem w72 : own_W (Cond.code yN10 prog_167_method_1_code (5 : Nat) (Option.none : Option Jvm.ClassFile.FieldType)) := own_wi 72 rfl
theorem w73 : own_W (Cond.methodLink sN2 (1 : Nat) yN29) := own_wi 73 rfl
theorem w74 : own_W (Cond.methodLink sN2 (7 : Nat) yN5) := own_wi 74 rfl
theorem w75 : own_W (Cond.static yN5) := own_wi 75 rfl
theorem w76 : own_W (Cond.initialized sN25) := own_wi 76 rfl
theorem w77 : own_W (Cond.code yN5 jdk_31_method_10_code (1 : Nat) (Option.some (Jvm.ClassFile.FieldType.object sN1))) := own_wi 77 rfl
theorem w78 : own_W (Cond.classLink sN2 (13 : Nat) sN12) := own_wi 78 rfl
theorem w80 : own_W (Cond.fieldLink sN2 (15 : Nat) sN2 "dataType" sN15) := own_wi 80 rfl
theorem w81 : own_W (Cond.laysFinal sN2 sN2 "dataType" sN15) := own_wi 81 rfl
theorem w82 : own_W (Cond.methodLink sN2 (21 : Nat) yN11) := own_wi 82 rfl
theorem w83 : own_W (Cond.static yN11) := own_wi 83 rfl
theorem w84 : own_W (Cond.initialized sN3) := own_wi 84 rfl
theorem w85 : own_W (Cond.code yN11 jdk_40_method_48_code (1 : Nat) (Option.some (Jvm.ClassFile.FieldType.object sN3))) := own_wi 85 rfl
theorem w86 : own_W (Cond.methodLink sN3 (112 : Nat) yN12) := own_wi 86 rfl
theorem w87 : own_W (Cond.static yN12) := own_wi 87 rfl
theorem w88 : own_W (Cond.initialized sN14) := own_wi 88 rfl
theorem w89 : own_W (Cond.code yN12 jdk_56_method_3_code (2 : Nat) (Option.some (Jvm.ClassFile.FieldType.object sN3))) := own_wi 89 rfl
theorem w90 : own_W (Cond.classLink sN14 (10 : Nat) sN6) := own_wi 90 rfl
theorem w91 : own_W (Cond.superclass sN0 sN13) := own_wi 91 rfl
theorem w92 : own_W (Cond.superclass sN13 sN29) := own_wi 92 rfl
theorem w93 : own_W (Cond.superclass sN29 sN1) := own_wi 93 rfl
theorem w94 : own_W (Cond.noSuperclass sN1) := own_wi 94 rfl
theorem w95 : own_W (Cond.classLink sN14 (12 : Nat) sN7) := own_wi 95 rfl
theorem w96 : own_W (Cond.methodLink sN14 (20 : Nat) yN56) := own_wi 96 rfl
theorem w97 : own_W (Cond.declares yN56) := own_wi 97 rfl
theorem w98 : own_W (Cond.interfaceMethod sN36 sN36 "isEmpty" "()Z") := own_wi 98 rfl
theorem w99 : own_W (Cond.selects sN0 yN56 yN13) := own_wi 99 rfl
theorem w100 : own_W (Cond.instanceMethod yN13) := own_wi 100 rfl
theorem w101 : own_W (Cond.publicMethod yN13) := own_wi 101 rfl
theorem w102 : own_W (Cond.unhidden sN0 "isEmpty" "()Z") := own_wi 102 rfl
theorem w103 : own_W (Cond.castable sN0 sN36) := own_wi 103 rfl
theorem w104 : own_W (Cond.code yN13 jdk_38_method_9_code (1 : Nat) (Option.some Jvm.ClassFile.FieldType.boolean)) := own_wi 104 rfl
theorem w105 : own_W (Cond.methodLink sN14 (26 : Nat) yN46) := own_wi 105 rfl
theorem w106 : own_W (Cond.static yN46) := own_wi 106 rfl
theorem w107 : own_W (Cond.code yN46 jdk_40_method_36_code (0 : Nat) (Option.some (Jvm.ClassFile.FieldType.object sN3))) := own_wi 107 rfl
theorem w108 : own_W (Cond.fieldLink sN3 (90 : Nat) sN14 "EMPTY_LIST" sN34) := own_wi 108 rfl
theorem w109 : own_W (Cond.fieldLink sN2 (27 : Nat) sN2 "values" sN10) := own_wi 109 rfl
theorem w110 : own_W (Cond.laysFinal sN2 sN2 "values" sN10) := own_wi 110 rfl
theorem w111 : own_W (Cond.methodLink sN2 (31 : Nat) yN37) := own_wi 111 rfl
theorem w112 : own_W (Cond.declares yN37) := own_wi 112 rfl
theorem w113 : own_W (Cond.interfaceMethod sN3 sN3 "size" "()I") := own_wi 113 rfl
theorem w114 : own_W (Cond.selects sN7 yN37 yN18) := own_wi 114 rfl
theorem w115 : own_W (Cond.instanceMethod yN18) := own_wi 115 rfl
theorem w116 : own_W (Cond.publicMethod yN18) := own_wi 116 rfl
theorem w117 : own_W (Cond.unhidden sN7 "size" "()I") := own_wi 117 rfl
theorem w118 : own_W (Cond.castable sN7 sN3) := own_wi 118 rfl
theorem w119 : own_W (Cond.initialized sN7) := own_wi 119 rfl
theorem w120 : own_W (Cond.code yN18 jdk_45_method_3_code (1 : Nat) (Option.some Jvm.ClassFile.FieldType.int)) := own_wi 120 rfl
theorem w121 : own_W (Cond.fieldLink sN7 (7 : Nat) sN7 "elements" sN4) := own_wi 121 rfl
theorem w122 : own_W (Cond.laysFinal sN7 sN7 "elements" sN4) := own_wi 122 rfl
theorem w123 : own_W (Cond.fieldLink sN2 (35 : Nat) sN2 "size" "I") := own_wi 123 rfl
theorem w124 : own_W (Cond.laysFinal sN2 sN2 "size" "I") := own_wi 124 rfl
theorem w125 : own_W (Cond.fieldLink sN2 (38 : Nat) sN2 "parts" sN10) := own_wi 125 rfl
theorem w126 : own_W (Cond.laysFinal sN2 sN2 "parts" sN10) := own_wi 126 rfl
theorem w127 : own_W (Cond.methodLink sN2 (41 : Nat) yN38) := own_wi 127 rfl
theorem w128 : own_W (Cond.declares yN38) := own_wi 128 rfl
theorem w129 : own_W (Cond.interfaceMethod sN3 sN3 "iterator" sN24) := own_wi 129 rfl
theorem w130 : own_W (Cond.selects sN7 yN38 yN8) := own_wi 130 rfl
theorem w131 : own_W (Cond.instanceMethod yN8) := own_wi 131 rfl
theorem w132 : own_W (Cond.publicMethod yN8) := own_wi 132 rfl
theorem w133 : own_W (Cond.unhidden sN7 "iterator" sN24) := own_wi 133 rfl
theorem w134 : own_W (Cond.initialized sN21) := own_wi 134 rfl
theorem w135 : own_W (Cond.code yN8 jdk_46_method_10_code (1 : Nat) (Option.some (Jvm.ClassFile.FieldType.object sN22))) := own_wi 135 rfl
theorem w136 : own_W (Cond.classLink sN21 (61 : Nat) sN5) := own_wi 136 rfl
theorem w137 : own_W (Cond.instantiable sN5 (4 : Nat)) := own_wi 137 rfl
theorem w138 : own_W (Cond.initialized sN5) := own_wi 138 rfl
theorem w139 : own_W (Cond.methodLink sN21 (13 : Nat) yN57) := own_wi 139 rfl
theorem w140 : own_W (Cond.sameMethod sN21 sN29 "size" "()I") := own_wi 140 rfl
theorem w141 : own_W (Cond.declares (⟨sN29, "size", "()I"⟩ : MethodName)) := own_wi 141 rfl
theorem w142 : own_W (Cond.selects sN7 yN57 yN18) := own_wi 142 rfl
theorem w143 : own_W (Cond.methodLink sN21 (63 : Nat) yN19) := own_wi 143 rfl
theorem w144 : own_W (Cond.instanceMethod yN19) := own_wi 144 rfl
theorem w146 : own_W (Cond.code yN19 jdk_53_method_1_code (3 : Nat) (Option.none : Option Jvm.ClassFile.FieldType)) := own_wi 146 rfl
theorem w147 : own_W (Cond.methodLink sN5 (1 : Nat) yN29) := own_wi 147 rfl
theorem w148 : own_W (Cond.fieldLink sN5 (7 : Nat) sN5 "list" sN10) := own_wi 148 rfl
theorem w149 : own_W (Cond.laysFinal sN5 sN5 "list" sN10) := own_wi 149 rfl
theorem w150 : own_W (Cond.fieldLink sN5 (13 : Nat) sN5 "size" "I") := own_wi 150 rfl
theorem w151 : own_W (Cond.laysFinal sN5 sN5 "size" "I") := own_wi 151 rfl
theorem w152 : own_W (Cond.fieldLink sN5 (17 : Nat) sN5 "cursor" "I") := own_wi 152 rfl
theorem w153 : own_W (Cond.lays sN5 sN5 "cursor" "I") := own_wi 153 rfl
theorem w154 : own_W (Cond.fieldLink sN5 (20 : Nat) sN5 sN19 "Z") := own_wi 154 rfl
theorem w155 : own_W (Cond.laysFinal sN5 sN5 sN19 "Z") := own_wi 155 rfl
theorem w156 : own_W (Cond.methodLink sN2 (45 : Nat) yN47) := own_wi 156 rfl
theorem w157 : own_W (Cond.declares yN47) := own_wi 157 rfl
theorem w158 : own_W (Cond.interfaceMethod sN22 sN22 "hasNext" "()Z") := own_wi 158 rfl
theorem w159 : own_W (Cond.selects sN5 yN47 yN2) := own_wi 159 rfl
theorem w160 : own_W (Cond.instanceMethod yN2) := own_wi 160 rfl
theorem w161 : own_W (Cond.publicMethod yN2) := own_wi 161 rfl
theorem w162 : own_W (Cond.unhidden sN5 "hasNext" "()Z") := own_wi 162 rfl
theorem w163 : own_W (Cond.castable sN5 sN22) := own_wi 163 rfl
theorem w164 : own_W (Cond.code yN2 jdk_53_method_3_code (1 : Nat) (Option.some Jvm.ClassFile.FieldType.boolean)) := own_wi 164 rfl
theorem w165 : own_W (Cond.methodLink sN14 (30 : Nat) yN58) := own_wi 165 rfl
theorem w166 : own_W (Cond.declares yN58) := own_wi 166 rfl
theorem w167 : own_W (Cond.interfaceMethod sN36 sN36 "toArray" sN26) := own_wi 167 rfl
theorem w168 : own_W (Cond.selects sN0 yN58 yN14) := own_wi 168 rfl
theorem w169 : own_W (Cond.instanceMethod yN14) := own_wi 169 rfl
theorem w170 : own_W (Cond.publicMethod yN14) := own_wi 170 rfl
theorem w171 : own_W (Cond.unhidden sN0 "toArray" sN26) := own_wi 171 rfl
theorem w172 : own_W (Cond.code yN14 jdk_38_method_16_code (1 : Nat) (Option.some (Jvm.ClassFile.FieldType.array (Jvm.ClassFile.FieldType.object sN1)))) := own_wi 172 rfl
theorem w173 : own_W (Cond.methodLink sN0 (66 : Nat) yN20) := own_wi 173 rfl
theorem w174 : own_W (Cond.static yN20) := own_wi 174 rfl
theorem w175 : own_W (Cond.initialized sN20) := own_wi 175 rfl
theorem w176 : own_W (Cond.code yN20 jdk_65_method_119_code (2 : Nat) (Option.some (Jvm.ClassFile.FieldType.array (Jvm.ClassFile.FieldType.object sN1)))) := own_wi 176 rfl
theorem w177 : own_W (Cond.methodLink sN20 (86 : Nat) yN31) := own_wi 177 rfl
theorem w178 : own_W (Cond.declares yN31) := own_wi 178 rfl
theorem w179 : own_W (Cond.instanceMethod yN31) := own_wi 179 rfl
theorem w180 : own_W (Cond.selects sN4 yN31 yN31) := own_wi 180 rfl
theorem w181 : own_W (Cond.native yN31) := own_wi 181 rfl
theorem w183 : own_W (Cond.methodLink sN20 (300 : Nat) yN21) := own_wi 183 rfl
theorem w184 : own_W (Cond.static yN21) := own_wi 184 rfl
theorem w185 : own_W (Cond.code yN21 jdk_65_method_120_code (4 : Nat) (Option.some (Jvm.ClassFile.FieldType.array (Jvm.ClassFile.FieldType.object sN1)))) := own_wi 185 rfl
theorem w186 : own_W (Cond.classLink sN20 (110 : Nat) sN4) := own_wi 186 rfl
theorem w187 : own_W (Cond.classLink sN20 (2 : Nat) sN1) := own_wi 187 rfl
theorem w188 : own_W (Cond.methodLink sN20 (304 : Nat) yN4) := own_wi 188 rfl
theorem w189 : own_W (Cond.static yN4) := own_wi 189 rfl
theorem w190 : own_W (Cond.code yN4 jdk_29_method_69_code (2 : Nat) (Option.some Jvm.ClassFile.FieldType.int)) := own_wi 190 rfl
theorem w191 : own_W (Cond.methodLink sN20 (150 : Nat) yN59) := own_wi 191 rfl
theorem w192 : own_W (Cond.static yN59) := own_wi 192 rfl
theorem w193 : own_W (Cond.initialized "java/lang/System") := own_wi 193 rfl
theorem w194 : own_W (Cond.native yN59) := own_wi 194 rfl
theorem w195 : own_W (Cond.methodLink sN14 (34 : Nat) yN22) := own_wi 195 rfl
theorem w196 : own_W (Cond.static yN22) := own_wi 196 rfl
theorem w197 : own_W (Cond.code yN22 jdk_40_method_47_code (2 : Nat) (Option.some (Jvm.ClassFile.FieldType.object sN3))) := own_wi 197 rfl
theorem w198 : own_W (Cond.methodLink sN3 (109 : Nat) yN48) := own_wi 198 rfl
theorem w199 : own_W (Cond.static yN48) := own_wi 199 rfl
theorem w200 : own_W (Cond.code yN48 jdk_56_method_4_code (3 : Nat) (Option.some (Jvm.ClassFile.FieldType.object sN3))) := own_wi 200 rfl
theorem w201 : own_W (Cond.classLink sN14 (2 : Nat) sN1) := own_wi 201 rfl
theorem w202 : own_W (Cond.methodLink sN14 (37 : Nat) yN5) := own_wi 202 rfl
theorem w203 : own_W (Cond.instantiable sN7 (2 : Nat)) := own_wi 203 rfl
theorem w204 : own_W (Cond.methodLinkNest sN14 (43 : Nat) yN49 sN14) := own_wi 204 rfl
theorem w205 : own_W (Cond.instanceMethod yN49) := own_wi 205 rfl
theorem w207 : own_W (Cond.code yN49 jdk_45_method_1_code (3 : Nat) (Option.none : Option Jvm.ClassFile.FieldType)) := own_wi 207 rfl
theorem w208 : own_W (Cond.methodLink sN7 (1 : Nat) yN39) := own_wi 208 rfl
theorem w209 : own_W (Cond.instanceMethod yN39) := own_wi 209 rfl
theorem w212 : own_W (Cond.code yN39 jdk_46_method_1_code (1 : Nat) (Option.none : Option Jvm.ClassFile.FieldType)) := own_wi 212 rfl
theorem w213 : own_W (Cond.methodLink sN21 (1 : Nat) yN50) := own_wi 213 rfl
theorem w214 : own_W (Cond.instanceMethod yN50) := own_wi 214 rfl
theorem w217 : own_W (Cond.initialized sN55) := own_wi 217 rfl
theorem w218 : own_W (Cond.code yN50 jdk_47_method_1_code (1 : Nat) (Option.none : Option Jvm.ClassFile.FieldType)) := own_wi 218 rfl
theorem w219 : own_W (Cond.methodLink sN55 (1 : Nat) yN35) := own_wi 219 rfl
theorem w221 : own_W (Cond.fieldLink sN7 (13 : Nat) sN7 "allowNulls" "Z") := own_wi 221 rfl
theorem w222 : own_W (Cond.laysFinal sN7 sN7 "allowNulls" "Z") := own_wi 222 rfl
theorem w223 : own_W (Cond.methodLink sN2 (51 : Nat) yN6) := own_wi 223 rfl
theorem w224 : own_W (Cond.declares yN6) := own_wi 224 rfl
theorem w225 : own_W (Cond.interfaceMethod sN22 sN22 "next" sN16) := own_wi 225 rfl
theorem w226 : own_W (Cond.selects sN5 yN6 yN0) := own_wi 226 rfl
theorem w227 : own_W (Cond.instanceMethod yN0) := own_wi 227 rfl
theorem w228 : own_W (Cond.publicMethod yN0) := own_wi 228 rfl
theorem w229 : own_W (Cond.unhidden sN5 "next" sN16) := own_wi 229 rfl
theorem w230 : own_W (Cond.codeWith yN0 jdk_53_method_4_code (3 : Nat) (Option.some (Jvm.ClassFile.FieldType.object sN1)) [((0 : Nat), (24 : Nat), (25 : Nat), (30 : Nat))]) := own_wi 230 rfl
theorem w231 : own_W (Cond.methodLink sN5 (24 : Nat) yN32) := own_wi 231 rfl
theorem w232 : own_W (Cond.declares yN32) := own_wi 232 rfl
theorem w233 : own_W (Cond.interfaceMethod sN3 sN3 "get" sN18) := own_wi 233 rfl
theorem w234 : own_W (Cond.selects sN7 yN32 yN23) := own_wi 234 rfl
theorem w235 : own_W (Cond.instanceMethod yN23) := own_wi 235 rfl
theorem w236 : own_W (Cond.publicMethod yN23) := own_wi 236 rfl
theorem w237 : own_W (Cond.unhidden sN7 "get" sN18) := own_wi 237 rfl
theorem w238 : own_W (Cond.code yN23 jdk_45_method_4_code (2 : Nat) (Option.some (Jvm.ClassFile.FieldType.object sN1))) := own_wi 238 rfl
theorem w239 : own_W (Cond.classLink sN2 (55 : Nat) sN9) := own_wi 239 rfl
theorem w241 : own_W (Cond.methodLink sN2 (57 : Nat) yN9) := own_wi 241 rfl
theorem w242 : own_W (Cond.declares yN9) := own_wi 242 rfl
theorem w243 : own_W (Cond.instanceMethod yN9) := own_wi 243 rfl
theorem w244 : own_W (Cond.selects sN9 yN9 yN9) := own_wi 244 rfl
theorem w245 : own_W (Cond.code yN9 prog_166_method_11_code (1 : Nat) (Option.some (Jvm.ClassFile.FieldType.object sN12))) := own_wi 245 rfl
theorem w246 : own_W (Cond.fieldLink sN9 (15 : Nat) sN9 "dataType" sN15) := own_wi 246 rfl
theorem w248 : own_W (Cond.castable sN2 sN1) := own_wi 248 rfl
theorem w249 : own_W (Cond.methodLink sN17 (31 : Nat) yN15) := own_wi 249 rfl
theorem w250 : own_W (Cond.static yN15) := own_wi 250 rfl
theorem w251 : own_W (Cond.code yN15 prog_167_method_3_code (6 : Nat) (Option.some (Jvm.ClassFile.FieldType.object sN2))) := own_wi 251 rfl
theorem w252 : own_W (Cond.classLink sN2 (79 : Nat) sN0) := own_wi 252 rfl
theorem w253 : own_W (Cond.selects sN0 yN37 yN24) := own_wi 253 rfl
theorem w254 : own_W (Cond.instanceMethod yN24) := own_wi 254 rfl
theorem w255 : own_W (Cond.publicMethod yN24) := own_wi 255 rfl
theorem w256 : own_W (Cond.unhidden sN0 "size" "()I") := own_wi 256 rfl
theorem w257 : own_W (Cond.castable sN0 sN3) := own_wi 257 rfl
theorem w258 : own_W (Cond.code yN24 jdk_38_method_8_code (1 : Nat) (Option.some Jvm.ClassFile.FieldType.int)) := own_wi 258 rfl
theorem w259 : own_W (Cond.methodLink sN2 (81 : Nat) yN51) := own_wi 259 rfl
theorem w260 : own_W (Cond.instanceMethod yN51) := own_wi 260 rfl
theorem w261 : own_W (Cond.code yN51 jdk_38_method_1_code (2 : Nat) (Option.none : Option Jvm.ClassFile.FieldType)) := own_wi 261 rfl
theorem w262 : own_W (Cond.selects sN0 yN38 yN40) := own_wi 262 rfl
theorem w263 : own_W (Cond.instanceMethod yN40) := own_wi 263 rfl
theorem w264 : own_W (Cond.publicMethod yN40) := own_wi 264 rfl
theorem w265 : own_W (Cond.unhidden sN0 "iterator" sN24) := own_wi 265 rfl
theorem w266 : own_W (Cond.code yN40 jdk_38_method_55_code (1 : Nat) (Option.some (Jvm.ClassFile.FieldType.object sN22))) := own_wi 266 rfl
theorem w267 : own_W (Cond.classLink sN0 (267 : Nat) sN8) := own_wi 267 rfl
theorem w268 : own_W (Cond.instantiable sN8 (4 : Nat)) := own_wi 268 rfl
theorem w269 : own_W (Cond.initialized sN8) := own_wi 269 rfl
theorem w270 : own_W (Cond.methodLink sN0 (269 : Nat) yN52) := own_wi 270 rfl
theorem w271 : own_W (Cond.instanceMethod yN52) := own_wi 271 rfl
theorem w273 : own_W (Cond.code yN52 jdk_49_method_1_code (2 : Nat) (Option.none : Option Jvm.ClassFile.FieldType)) := own_wi 273 rfl
theorem w274 : own_W (Cond.fieldLink sN8 (1 : Nat) sN8 "this$0" sN32) := own_wi 274 rfl
theorem w275 : own_W (Cond.laysFinal sN8 sN8 "this$0" sN32) := own_wi 275 rfl
theorem w276 : own_W (Cond.methodLink sN8 (7 : Nat) yN29) := own_wi 276 rfl
theorem w277 : own_W (Cond.fieldLink sN8 (13 : Nat) sN8 "lastRet" "I") := own_wi 277 rfl
theorem w278 : own_W (Cond.lays sN8 sN8 "lastRet" "I") := own_wi 278 rfl
theorem w279 : own_W (Cond.fieldLink sN8 (17 : Nat) sN0 "modCount" "I") := own_wi 279 rfl
theorem w280 : own_W (Cond.fieldLink sN8 (22 : Nat) sN8 sN38 "I") := own_wi 280 rfl
theorem w281 : own_W (Cond.lays sN8 sN8 sN38 "I") := own_wi 281 rfl
theorem w282 : own_W (Cond.selects sN8 yN47 yN25) := own_wi 282 rfl
theorem w283 : own_W (Cond.instanceMethod yN25) := own_wi 283 rfl
theorem w284 : own_W (Cond.publicMethod yN25) := own_wi 284 rfl
theorem w285 : own_W (Cond.unhidden sN8 "hasNext" "()Z") := own_wi 285 rfl
theorem w286 : own_W (Cond.castable sN8 sN22) := own_wi 286 rfl
theorem w287 : own_W (Cond.code yN25 jdk_49_method_2_code (1 : Nat) (Option.some Jvm.ClassFile.FieldType.boolean)) := own_wi 287 rfl
theorem w288 : own_W (Cond.fieldLink sN8 (25 : Nat) sN8 "cursor" "I") := own_wi 288 rfl
theorem w289 : own_W (Cond.lays sN8 sN8 "cursor" "I") := own_wi 289 rfl
theorem w290 : own_W (Cond.fieldLinkNest sN8 (28 : Nat) sN0 "size" "I" sN0) := own_wi 290 rfl
theorem w291 : own_W (Cond.selects sN8 yN6 yN33) := own_wi 291 rfl
theorem w292 : own_W (Cond.instanceMethod yN33) := own_wi 292 rfl
theorem w293 : own_W (Cond.publicMethod yN33) := own_wi 293 rfl
theorem w294 : own_W (Cond.unhidden sN8 "next" sN16) := own_wi 294 rfl
theorem w295 : own_W (Cond.code yN33 jdk_49_method_3_code (3 : Nat) (Option.some (Jvm.ClassFile.FieldType.object sN1))) := own_wi 295 rfl
theorem w296 : own_W (Cond.methodLink sN8 (31 : Nat) yN26) := own_wi 296 rfl
theorem w297 : own_W (Cond.declares yN26) := own_wi 297 rfl
theorem w298 : own_W (Cond.instanceMethod yN26) := own_wi 298 rfl
theorem w299 : own_W (Cond.selects sN8 yN26 yN26) := own_wi 299 rfl
theorem w300 : own_W (Cond.code yN26 jdk_49_method_6_code (1 : Nat) (Option.none : Option Jvm.ClassFile.FieldType)) := own_wi 300 rfl
theorem w301 : own_W (Cond.fieldLink sN8 (37 : Nat) sN0 "elementData" sN4) := own_wi 301 rfl
theorem w302 : own_W (Cond.classLink sN2 (16 : Nat) sN2) := own_wi 302 rfl
theorem w304 : own_W (Cond.methodLink sN2 (89 : Nat) yN7) := own_wi 304 rfl
theorem w305 : own_W (Cond.declares yN7) := own_wi 305 rfl
theorem w306 : own_W (Cond.instanceMethod yN7) := own_wi 306 rfl
theorem w307 : own_W (Cond.selects sN2 yN7 yN7) := own_wi 307 rfl
theorem w308 : own_W (Cond.code yN7 prog_167_method_8_code (1 : Nat) (Option.some Jvm.ClassFile.FieldType.boolean)) := own_wi 308 rfl
theorem w309 : own_W (Cond.methodLink sN2 (92 : Nat) yN60) := own_wi 309 rfl
theorem w310 : own_W (Cond.declares yN60) := own_wi 310 rfl
theorem w311 : own_W (Cond.interfaceMethod sN3 sN3 "add" sN23) := own_wi 311 rfl
theorem w312 : own_W (Cond.selects sN0 yN60 yN1) := own_wi 312 rfl
theorem w313 : own_W (Cond.publicMethod yN1) := own_wi 313 rfl
theorem w314 : own_W (Cond.unhidden sN0 "add" sN23) := own_wi 314 rfl
theorem w315 : own_W (Cond.methodLink sN2 (96 : Nat) yN32) := own_wi 315 rfl
theorem w316 : own_W (Cond.selects sN0 yN32 yN41) := own_wi 316 rfl
theorem w317 : own_W (Cond.instanceMethod yN41) := own_wi 317 rfl
theorem w318 : own_W (Cond.publicMethod yN41) := own_wi 318 rfl
theorem w319 : own_W (Cond.unhidden sN0 "get" sN18) := own_wi 319 rfl
theorem w320 : own_W (Cond.code yN41 jdk_38_method_20_code (2 : Nat) (Option.some (Jvm.ClassFile.FieldType.object sN1))) := own_wi 320 rfl
theorem w321 : own_W (Cond.methodLink sN0 (118 : Nat) yN53) := own_wi 321 rfl
theorem w322 : own_W (Cond.static yN53) := own_wi 322 rfl
theorem w323 : own_W (Cond.code yN53 jdk_31_method_17_code (2 : Nat) (Option.some Jvm.ClassFile.FieldType.int)) := own_wi 323 rfl
theorem w324 : own_W (Cond.methodLink sN25 (105 : Nat) yN54) := own_wi 324 rfl
theorem w325 : own_W (Cond.static yN54) := own_wi 325 rfl
theorem w326 : own_W (Cond.initialized sN61) := own_wi 326 rfl
theorem w327 : own_W (Cond.code yN54 jdk_41_method_11_code (3 : Nat) (Option.some Jvm.ClassFile.FieldType.int)) := own_wi 327 rfl
theorem w328 : own_W (Cond.methodLink sN0 (123 : Nat) yN27) := own_wi 328 rfl
theorem w329 : own_W (Cond.declares yN27) := own_wi 329 rfl
theorem w330 : own_W (Cond.instanceMethod yN27) := own_wi 330 rfl
theorem w331 : own_W (Cond.selects sN0 yN27 yN27) := own_wi 331 rfl
theorem w332 : own_W (Cond.code yN27 jdk_38_method_18_code (2 : Nat) (Option.some (Jvm.ClassFile.FieldType.object sN1))) := own_wi 332 rfl
theorem w333 : own_W (Cond.methodLink sN17 (35 : Nat) yN7) := own_wi 333 rfl
theorem w334 : own_W (Cond.fieldLink sN17 (39 : Nat) sN9 "TRUE" sN59) := own_wi 334 rfl
theorem w336 : own_W (Cond.classLink sN3 (96 : Nat) sN6) := own_wi 336 rfl
theorem w337 : own_W (Cond.instantiable sN6 (2 : Nat)) := own_wi 337 rfl
theorem w338 : own_W (Cond.initialized sN6) := own_wi 338 rfl
theorem w339 : own_W (Cond.methodLink sN3 (98 : Nat) yN55) := own_wi 339 rfl
theorem w340 : own_W (Cond.instanceMethod yN55) := own_wi 340 rfl
theorem w342 : own_W (Cond.code yN55 jdk_44_method_1_code (2 : Nat) (Option.none : Option Jvm.ClassFile.FieldType)) := own_wi 342 rfl
theorem w343 : own_W (Cond.methodLink sN6 (1 : Nat) yN39) := own_wi 343 rfl
theorem w347 : own_W (Cond.methodLink sN6 (7 : Nat) yN5) := own_wi 347 rfl
theorem w348 : own_W (Cond.fieldLink sN6 (13 : Nat) sN6 "e0" sN11) := own_wi 348 rfl
theorem w349 : own_W (Cond.laysFinal sN6 sN6 "e0" sN11) := own_wi 349 rfl
theorem w350 : own_W (Cond.fieldLinkNest sN6 (19 : Nat) sN14 "EMPTY" sN11 sN14) := own_wi 350 rfl
theorem w351 : own_W (Cond.fieldLink sN6 (24 : Nat) sN6 "e1" sN11) := own_wi 351 rfl
theorem w352 : own_W (Cond.laysFinal sN6 sN6 "e1" sN11) := own_wi 352 rfl
theorem w353 : own_W (Cond.selects sN6 yN37 yN28) := own_wi 353 rfl
theorem w354 : own_W (Cond.instanceMethod yN28) := own_wi 354 rfl
theorem w355 : own_W (Cond.publicMethod yN28) := own_wi 355 rfl
theorem w356 : own_W (Cond.unhidden sN6 "size" "()I") := own_wi 356 rfl
theorem w357 : own_W (Cond.castable sN6 sN3) := own_wi 357 rfl
theorem w358 : own_W (Cond.code yN28 jdk_44_method_3_code (1 : Nat) (Option.some Jvm.ClassFile.FieldType.int)) := own_wi 358 rfl
theorem w359 : own_W (Cond.selects sN6 yN38 yN8) := own_wi 359 rfl
theorem w360 : own_W (Cond.unhidden sN6 "iterator" sN24) := own_wi 360 rfl
theorem w361 : own_W (Cond.selects sN6 yN57 yN28) := own_wi 361 rfl
theorem w362 : own_W (Cond.selects sN6 yN32 yN34) := own_wi 362 rfl
theorem w363 : own_W (Cond.instanceMethod yN34) := own_wi 363 rfl
theorem w364 : own_W (Cond.publicMethod yN34) := own_wi 364 rfl
theorem w365 : own_W (Cond.unhidden sN6 "get" sN18) := own_wi 365 rfl
theorem w366 : own_W (Cond.code yN34 jdk_44_method_5_code (2 : Nat) (Option.some (Jvm.ClassFile.FieldType.object sN1))) := own_wi 366 rfl
theorem w367 : own_W (Cond.methodLink sN3 (100 : Nat) yN42) := own_wi 367 rfl
theorem w368 : own_W (Cond.instanceMethod yN42) := own_wi 368 rfl
theorem w369 : own_W (Cond.code yN42 jdk_44_method_2_code (3 : Nat) (Option.none : Option Jvm.ClassFile.FieldType)) := own_wi 369 rfl
theorem w370 : own_W (Cond.methodLink sN2 (100 : Nat) yN43) := own_wi 370 rfl
theorem w371 : own_W (Cond.instanceMethod yN43) := own_wi 371 rfl
theorem w372 : own_W (Cond.code yN43 prog_167_method_2_code (4 : Nat) (Option.none : Option Jvm.ClassFile.FieldType)) := own_wi 372 rfl

def own_El (Z : State) (wB e : Addr) : Prop := Exa Z Z.heap e sN9 ∧ Fld Z Z.heap e sN9 "dataType" sN15 (.ref wB)
def own_AV (Z : State) (wB : Addr) (h : Heap) (b : Addr) (n : Int32) : Prop := ∃ k : ClassId, Ovr Z k sN1 ∧
  ((n = (1 : Int32) ∧ ∃ e0, own_El Z wB e0 ∧ Arv Z h b k (.object sN1) (10 : Int32) [(.ref e0), .null, .null, .null, .null, .null, .null, .null, .null, .null] .null) ∨ (n = (2 : Int32) ∧ ∃ e0 e1, own_El Z wB e0 ∧ own_El Z wB e1 ∧ Arv Z h b k (.object sN1) (10 : Int32) [(.ref e0), (.ref e1), .null, .null, .null, .null, .null, .null, .null, .null] .null) ∨ (n = (3 : Int32) ∧ ∃ e0 e1 e2, own_El Z wB e0 ∧ own_El Z wB e1 ∧ own_El Z wB e2 ∧ Arv Z h b k (.object sN1) (10 : Int32) [(.ref e0), (.ref e1), (.ref e2), .null, .null, .null, .null, .null, .null, .null] .null))
def own_LS (Z : State) (n0 : Nat) (wD wB : Addr) (h : Heap) (r b : Addr) (n : Int32) : Prop := n0 ≤ r ∧ Exa Z h r sN0 ∧ Fld Z h r sN13 "modCount" "I" (.int n) ∧ Fld Z h r sN0 "size" "I" (.int n) ∧ Fld Z h r sN0 "elementData" sN4 (.ref b) ∧ b < h.size ∧
  ((n = (0 : Int32) ∧ b = wD) ∨ (n0 ≤ b ∧ Exa Z h b sN4 ∧ own_AV Z wB h b n))
def own_LL (Z : State) (n0 : Nat) (wD wB : Addr) (h : Heap) (r b : Addr) (n : Int32) (r' b' : Addr) (m : Int32) : Prop := own_LS Z n0 wD wB h r b n ∧ own_LS Z n0 wD wB h r' b' m ∧ r ≠ r' ∧ (n0 ≤ b → b ≠ b')
theorem own_AV_keep {Z : State} {wB b : Addr} {h h' : Heap} {n : Int32} {ws : List Addr} (V : own_AV Z wB h b n) (K : Keep h h' ws) (q : b ∉ ws) : own_AV Z wB h' b n := by
  obtain ⟨k, o, ⟨e, e0, q0, V⟩ | ⟨e, e0, e1, q0, q1, V⟩ | ⟨e, e0, e1, e2, q0, q1, q2, V⟩⟩ := V
  · exact ⟨k, o, Or.inl ⟨e, e0, q0, V.keep K q⟩⟩
  · exact ⟨k, o, Or.inr (Or.inl ⟨e, e0, e1, q0, q1, V.keep K q⟩)⟩
  · exact ⟨k, o, Or.inr (Or.inr ⟨e, e0, e1, e2, q0, q1, q2, V.keep K q⟩)⟩
theorem own_LS_keep {Z : State} {n0 : Nat} {wD wB r b : Addr} {h h' : Heap} {n : Int32} {ws : List Addr} (L : own_LS Z n0 wD wB h r b n) (K : Keep h h' ws) (q : r ∉ ws) (q' : n0 ≤ b → Exa Z h b sN4 → b ∉ ws) : own_LS Z n0 wD wB h' r b n := by
  obtain ⟨z, E, M, S, D, t, c⟩ := L
  exact ⟨z, E.keep K, M.keep K q, S.keep K q, D.keep K q, Nat.lt_of_lt_of_le t K.1, c.imp id fun ⟨g, Eb, V⟩ => ⟨g, Eb.keep K, own_AV_keep V K (q' g Eb)⟩⟩
theorem own_LL_symm {Z : State} {n0 : Nat} {wD wB r b r' b' : Addr} {h : Heap} {n m : Int32} (H : own_LL Z n0 wD wB h r b n r' b' m) : own_LL Z n0 wD wB h r' b' m r b n := ⟨H.2.1, H.1, H.2.2.1.symm, fun q e => H.2.2.2 (e ▸ q) e.symm⟩
def own_QA (Z : State) (n0 : Nat) (wD wB r : Addr) (n : Int32) (r' b' : Addr) (m : Int32) (v : Option Value) (h : Heap) (L : List Loc) : Prop := v = some (.int (1 : Int32)) ∧ Fr n0 L ∧ Old Z n0 h ∧ ∃ b, own_LL Z n0 wD wB h r b n r' b' m
theorem own_Ct_mono {l : Launch} {Z : State} {y : MethodName} {bytes : ByteArray} {mx : Nat} {rt : Option FieldType} {rm : Room} {as : Array Value} {h0 : Heap} {Q Q' : Option Value → Heap → List Loc → Prop} (H : own_Ct l Z y bytes mx rt rm as h0 Q) (k : ∀ v h L, Q v h L → Q' v h L) : own_Ct l Z y bytes mx rt rm as h0 Q' :=
  MetFree.mono H (fun _ _ q => q) (fun _ _ _ _ _ q => q) fun _ _ _ _ _ ⟨v, L, e, q, F⟩ => ⟨v, L, e, k _ _ _ q, F⟩
theorem rm12_0 (l : Launch) (Z : State) (a0 : Array Value) (hw : own_HW a0 Z) (w_BOOLEAN : Addr) (h0 : Heap) (n0 : Nat) (O0 : Old Z n0 h0)  :
    own_Ct l Z yN5 jdk_31_method_10_code 1 (some (.object sN1)) ({ frames := 0, cells := 0, slots := 0, locals := 0 } : Room) #[(.ref w_BOOLEAN)] h0 (own_QP (some (.ref w_BOOLEAN)) n0 h0) := by
  refine own_enter (own := sN25) rfl (plainFor_of_name pn_0) ?_
  intro p e s m below meth c s₁ X0 hx hby hml hown hnm hret hZ e0
  have N0 := Fr.nil n0
  refine ⟨(some (.ref w_BOOLEAN)), _, _, _, _, X0, (fun h => nomatch h), ?_, by decide, by decide, fun fs hr => castTop (ef_12_R m w_BOOLEAN) ?_⟩
  · show own_QP (some (.ref w_BOOLEAN)) n0 h0 _ s₁.heap _
    rw [e0]
    exact ⟨rfl, N0, rfl⟩
  · show Steps p.tables e below (s₁.setTop (mkF m 0 #[.val (.ref w_BOOLEAN)] [])) _
    refine XS.aloadN X0.here hx rfl (hb hby d12_0) rfl rfl ?_
    refine XS.ifnonnullYes X0.here hx rfl (pc0 := 1) (pc' := 12) rfl (hb hby d12_1) rfl (by decide) (by decide) ?_
    refine XS.aloadN X0.here hx rfl (hb hby d12_12) rfl rfl ?_
    exact retA X0 hx hret rfl rfl rfl (hb hby d12_13) hr
theorem rm15_0 (l : Launch) (Z : State) (a0 : Array Value) (hw : own_HW a0 Z) (r1 : Addr) (h0 : Heap) (n0 : Nat) (O0 : Old Z n0 h0) (P1 : Fld Z h0 r1 sN0 "size" "I" (.int (0 : Int32))) :
    own_Ct l Z yN13 jdk_38_method_9_code 1 (some .boolean) ({ frames := 0, cells := 0, slots := 0, locals := 0 } : Room) #[(.ref r1)] h0 (own_QP (some (.int (1 : Int32))) n0 h0) := by
  refine own_enter (own := sN0) rfl (plainFor_of_name pn_3) ?_
  intro p e s m below meth c s₁ X0 hx hby hml hown hnm hret hZ e0
  have N0 := Fr.nil n0
  obtain ⟨T1, X1, e1, st1⟩ := getF X0 hx hZ hown (host := "") (Or.inl (w40 hw)) Via.refl e0 P1 (g := (mkF m 1 #[.val (.ref r1)] [(.ref r1)])) rfl rfl (hb hby d15_1)
  refine ⟨(some (.int (1 : Int32))), _, _, _, _, X1, (fun h => nomatch h), ?_, by decide, by decide, fun fs hr => castTop (ef_15_R m r1) ?_⟩
  · show own_QP (some (.int (1 : Int32))) n0 h0 _ T1.heap _
    rw [e1]
    exact ⟨rfl, N0, rfl⟩
  · show Steps p.tables e below (s₁.setTop (mkF m 0 #[.val (.ref r1)] [])) _
    refine XS.aloadN X0.here hx rfl (hb hby d15_0) rfl rfl ?_
    refine st1 _ ?_
    refine XS.ifNo X1.here hx rfl (hb hby d15_4) rfl (by decide) ?_
    refine XS.iconst X1.here hx rfl (hb hby d15_7) ?_
    refine XS.goto X1.here hx rfl (pc0 := 8) (pc' := 12) rfl (hb hby d15_8) (by decide) (by decide) ?_
    exact retN X1 hx (t := .boolean) hret (by simp) (hb hby d15_12) hr
theorem rm16_0 (l : Launch) (Z : State) (a0 : Array Value) (hw : own_HW a0 Z) (w_LIST : Addr) (h0 : Heap) (n0 : Nat) (O0 : Old Z n0 h0) (P1 : Sta Z Z.heap sN14 "EMPTY_LIST" sN34 (.ref w_LIST)) :
    own_Ct l Z yN46 jdk_40_method_36_code 0 (some (.object sN3)) ({ frames := 0, cells := 0, slots := 0, locals := 0 } : Room) #[] h0 (own_QP (some (.ref w_LIST)) n0 h0) := by
  refine own_enter (own := sN3) rfl (plainFor_of_name pn_6) ?_
  intro p e s m below meth c s₁ X0 hx hby hml hown hnm hret hZ e0
  have N0 := Fr.nil n0
  obtain ⟨T1, X1, e1, st1⟩ := getS2 X0 hx hZ hown (host := "") (Or.inl (w108 hw)) Via.refl e0 (P1.ext O0.2) (g := (mkF m 0 #[] [])) rfl (hb hby d16_0)
  refine ⟨(some (.ref w_LIST)), _, _, _, _, X1, (fun h => nomatch h), ?_, by decide, by decide, fun fs hr => castTop (ef_16_ m ) ?_⟩
  · show own_QP (some (.ref w_LIST)) n0 h0 _ T1.heap _
    rw [e1]
    exact ⟨rfl, N0, rfl⟩
  · show Steps p.tables e below (s₁.setTop (mkF m 0 #[] [])) _
    refine st1 _ ?_
    exact retA X1 hx hret rfl rfl rfl (hb hby d16_3) hr
theorem rm14_0 (l : Launch) (Z : State) (a0 : Array Value) (hw : own_HW a0 Z) (r1 : Addr) (w_LIST : Addr) (h0 : Heap) (n0 : Nat) (O0 : Old Z n0 h0) (P1 : Exa Z h0 r1 sN0) (P2 : Fld Z h0 r1 sN0 "size" "I" (.int (0 : Int32))) (P3 : Sta Z Z.heap sN14 "EMPTY_LIST" sN34 (.ref w_LIST)) :
    own_Ct l Z yN12 jdk_56_method_3_code 2 (some (.object sN3)) ({ frames := 1, cells := 0, slots := 0, locals := 12 } : Room) #[(.ref r1)] h0 (own_QP (some (.ref w_LIST)) n0 h0) := by
  refine own_enter (own := sN14) rfl (plainFor_of_name pn_9) ?_
  intro p e s m below meth c s₁ X0 hx hby hml hown hnm hret hZ e0
  have N0 := Fr.nil n0
  obtain ⟨T1, X1, e1, st1⟩ := instNo X0 hx hZ hown (w90 hw) e0 P1 (own_nsno (w91 hw) (w337 hw) (NS.step (w91 hw) (NS.step (w92 hw) (NS.step (w93 hw) (own_nsroot (w94 hw) (w337 hw) (by decide)) (by decide)) (by decide)) (by decide)) (by decide)) (g := (mkF m 1 #[.val (.ref r1), .unset] [(.ref r1)])) rfl rfl (hb hby d14_1)
  obtain ⟨T2, X2, e2, st2⟩ := instNo X1 hx hZ hown (w95 hw) e1 P1 (own_nsno (w91 hw) (w203 hw) (NS.step (w91 hw) (NS.step (w92 hw) (NS.step (w93 hw) (own_nsroot (w94 hw) (w203 hw) (by decide)) (by decide)) (by decide)) (by decide)) (by decide)) (g := (mkF m 8 #[.val (.ref r1), .unset] [(.ref r1)])) rfl rfl (hb hby d14_8)
  obtain ⟨_, T3, L3, X3, hQ3, st3⟩ := own_cF X2 hx hZ hown (w96 hw) (w97 hw) (w98 hw) (w99 hw) (w100 hw) (w101 hw) (w102 hw) (w103 hw) (w2 hw) (w104 hw) P1 (rm15_0 l Z a0 hw r1 h0 n0 O0 P2) e2 (hb hby d14_32) hml pd_5 [] [] (g := (mkF m 32 #[.val (.ref r1), .unset] [(.ref r1)]))
  obtain ⟨rfl, N3q, e3⟩ := hQ3
  have N3 := Fr.app N0 N3q
  obtain ⟨_, T4, L4, X4, hQ4, st4⟩ := own_cS X3 hx hZ hown (w105 hw) (w106 hw) (w84 hw) (w107 hw) (rm16_0 l Z a0 hw w_LIST h0 n0 O0 P3) e3 (hb hby d14_40) hml pd_8 [] [] (g := (mkF m 40 #[.val (.ref r1), .unset] []))
  obtain ⟨rfl, N4q, e4⟩ := hQ4
  have N4 := Fr.app N3 N4q
  refine ⟨(some (.ref w_LIST)), _, _, _, _, X4, (fun h => nomatch h), ?_, by decide, by decide, fun fs hr => castTop (ef_14_R m r1) ?_⟩
  · show own_QP (some (.ref w_LIST)) n0 h0 _ T4.heap _
    rw [e4]
    exact ⟨rfl, N4, rfl⟩
  · show Steps p.tables e below (s₁.setTop (mkF m 0 #[.val (.ref r1), .unset] [])) _
    refine XS.aloadN X0.here hx rfl (hb hby d14_0) rfl rfl ?_
    refine st1 _ ?_
    refine XS.ifNo X1.here hx rfl (hb hby d14_4) rfl (by decide) ?_
    refine XS.aloadN X1.here hx rfl (hb hby d14_7) rfl rfl ?_
    refine st2 _ ?_
    refine XS.ifYes X2.here hx rfl (pc0 := 11) (pc' := 31) rfl (hb hby d14_11) rfl (by decide) (by decide) (by decide) ?_
    refine XS.aloadN X2.here hx rfl (hb hby d14_31) rfl rfl ?_
    refine st3 _ ?_
    show Steps p.tables e below (T3.setTop (mkF m 37 #[.val (.ref r1), .unset] [(.int (1 : Int32))])) _
    refine XS.ifNo X3.here hx rfl (hb hby d14_37) rfl (by decide) ?_
    refine st4 _ ?_
    exact retA X4 hx hret rfl rfl rfl (hb hby d14_43) hr
theorem rm13_0 (l : Launch) (Z : State) (a0 : Array Value) (hw : own_HW a0 Z) (r1 : Addr) (w_LIST : Addr) (h0 : Heap) (n0 : Nat) (O0 : Old Z n0 h0) (P1 : Exa Z h0 r1 sN0) (P2 : Fld Z h0 r1 sN0 "size" "I" (.int (0 : Int32))) (P3 : Sta Z Z.heap sN14 "EMPTY_LIST" sN34 (.ref w_LIST)) :
    own_Ct l Z yN11 jdk_40_method_48_code 1 (some (.object sN3)) ({ frames := 2, cells := 0, slots := 0, locals := 25 } : Room) #[(.ref r1)] h0 (own_QP (some (.ref w_LIST)) n0 h0) := by
  refine own_enter (own := sN3) rfl (plainFor_of_name pn_6) ?_
  intro p e s m below meth c s₁ X0 hx hby hml hown hnm hret hZ e0
  have N0 := Fr.nil n0
  obtain ⟨_, T1, L1, X1, hQ1, st1⟩ := own_cS X0 hx hZ hown (w86 hw) (w87 hw) (w88 hw) (w89 hw) (rm14_0 l Z a0 hw r1 w_LIST h0 n0 O0 P1 P2 P3) e0 (hb hby d13_1) hml pd_11 [(.ref r1)] [] (g := (mkF m 1 #[.val (.ref r1)] [(.ref r1)]))
  obtain ⟨rfl, N1q, e1⟩ := hQ1
  have N1 := Fr.app N0 N1q
  refine ⟨(some (.ref w_LIST)), _, _, _, _, X1, (fun h => nomatch h), ?_, by decide, by decide, fun fs hr => castTop (ef_13_R m r1) ?_⟩
  · show own_QP (some (.ref w_LIST)) n0 h0 _ T1.heap _
    rw [e1]
    exact ⟨rfl, N1, rfl⟩
  · show Steps p.tables e below (s₁.setTop (mkF m 0 #[.val (.ref r1)] [])) _
    refine XS.aloadN X0.here hx rfl (hb hby d13_0) rfl rfl ?_
    refine st1 _ ?_
    exact retA X1 hx hret rfl rfl rfl (hb hby d13_4) hr
theorem rm17_0 (l : Launch) (Z : State) (a0 : Array Value) (hw : own_HW a0 Z) (w_LIST : Addr) (w_LELS : Addr) (w_kLEL : ClassId) (h0 : Heap) (n0 : Nat) (O0 : Old Z n0 h0) (P1 : Fld Z Z.heap w_LIST sN7 "elements" sN4 (.ref w_LELS)) (P2 : Arv Z Z.heap w_LELS w_kLEL (.object sN1) (0 : Int32) [] .null) :
    own_Ct l Z yN18 jdk_45_method_3_code 1 (some .int) ({ frames := 0, cells := 0, slots := 0, locals := 0 } : Room) #[(.ref w_LIST)] h0 (own_QP (some (.int (0 : Int32))) n0 h0) := by
  refine own_enter (own := sN7) rfl (plainFor_of_name pn_13) ?_
  intro p e s m below meth c s₁ X0 hx hby hml hown hnm hret hZ e0
  have N0 := Fr.nil n0
  obtain ⟨T1, X1, e1, st1⟩ := getF X0 hx hZ hown (host := "") (Or.inl (w121 hw)) Via.refl e0 (P1.ext O0.2) (g := (mkF m 1 #[.val (.ref w_LIST)] [(.ref w_LIST)])) rfl rfl (hb hby d17_1)
  obtain ⟨cl2, Ar2, -, Sr2, Nr2, -, -⟩ := id (P2.ext O0.2)
  refine ⟨(some (.int (0 : Int32))), _, _, _, _, X1, (fun h => nomatch h), ?_, by decide, by decide, fun fs hr => castTop (ef_17_R m w_LIST) ?_⟩
  · show own_QP (some (.int (0 : Int32))) n0 h0 _ T1.heap _
    rw [e1]
    exact ⟨rfl, N0, rfl⟩
  · show Steps p.tables e below (s₁.setTop (mkF m 0 #[.val (.ref w_LIST)] [])) _
    refine XS.aloadN X0.here hx rfl (hb hby d17_0) rfl rfl ?_
    refine st1 _ ?_
    refine X1.arraylength hx (by rw [e1]; exact Ar2.1) (State.isArrayOf_alike hZ.alike Ar2.2.1) (g := (mkF m 4 #[.val (.ref w_LIST)] [(.ref w_LELS)])) rfl rfl (hb hby d17_4) _ ?_
    rw [len_of Sr2 Nr2]
    exact retI X1 hx hret (hb hby d17_5) hr
def Q_rm19_0 (Z : State) (r1 : Addr) (w_LIST : Addr) (n0 : Nat) (h0 : Heap) (v : Option Value) (h : Heap) (L : List Loc) : Prop := v = none ∧ Fr n0 L ∧ Keep h0 h [r1] ∧ Fld Z h r1 sN5 "list" sN10 (.ref w_LIST) ∧ Fld Z h r1 sN5 "size" "I" (.int (0 : Int32)) ∧ Fld Z h r1 sN5 "cursor" "I" (.int (0 : Int32)) ∧ Fld Z h r1 sN5 sN19 "Z" (.int (0 : Int32))
theorem rm19_0 (l : Launch) (Z : State) (a0 : Array Value) (hw : own_HW a0 Z) (r1 : Addr) (w_LIST : Addr) (h0 : Heap) (n0 : Nat) (O0 : Old Z n0 h0) (P1 : Exa Z h0 r1 sN5) (P2 : Fld Z h0 r1 sN5 "list" sN10 .null) (P3 : Fld Z h0 r1 sN5 "size" "I" (.int (0 : Int32))) (P4 : Fld Z h0 r1 sN5 "cursor" "I" (.int (0 : Int32))) (P5 : Fld Z h0 r1 sN5 sN19 "Z" (.int (0 : Int32))) (P6 : n0 ≤ r1) :
    own_Ct l Z yN19 jdk_53_method_1_code 3 none ({ frames := 1, cells := 0, slots := 0, locals := 12 } : Room) #[(.ref r1), (.ref w_LIST), (.int (0 : Int32))] h0 (Q_rm19_0 Z r1 w_LIST n0 h0) := by
  refine own_enter (own := sN5) rfl (plainFor_of_name pn_16) ?_
  intro p e s m below meth c s₁ X0 hx hby hml hown hnm hret hZ e0
  have N0 := Fr.nil n0
  obtain ⟨T1, X1, e1, st1⟩ := initO X0 hx hZ hown (w147 hw) (w19 hw) (w20 hw) e0 (g := (mkF m 1 #[.val (.ref r1), .val (.ref w_LIST), .val (.int (0 : Int32))] [(.ref r1)])) rfl (by rw [hml]; rfl) rfl (hb hby d19_1) (by decide) (W := 0) (by show 2 * 0 + _ ≤ _; exact Nat.le_of_eq rfl) (by decide)
  obtain ⟨T2, h2, X2, e2, W2, st2⟩ := putF X1 hx hZ hown (host := "") (Or.inl (w148 hw)) Via.refl e1 P2 P1 (Or.inr ⟨(w149 hw), rfl, hnm⟩) (w137 hw) (ty := (.object sN3)) (by decide) rfl rfl (g := (mkF m 6 #[.val (.ref r1), .val (.ref w_LIST), .val (.int (0 : Int32))] [(.ref w_LIST), (.ref r1)])) rfl rfl (hb hby d19_6)
  have Fw2 := P2.same W2
  have KK2 : Keep h0 h2 [r1] := (Keep.refl h0 [r1]).wr W2 (Or.inl (List.mem_of_getElem? (i := 0) rfl))
  have O2 := O0.wr W2 P6
  have N2 := Fr.snoc X2 N0 P6
  have fc3 := (P3.other W2 (Or.inr (slot_ne (Or.inr (w151 hw)) (Or.inr (w149 hw)) (by decide) (t := .int) (t' := (.object sN3)) (by decide) (by decide))))
  obtain ⟨T4, h4, X4, e4, W4, st4⟩ := putF X2 hx hZ hown (host := "") (Or.inl (w150 hw)) Via.refl e2 fc3 (P1.wr W2) (Or.inr ⟨(w151 hw), rfl, hnm⟩) (w137 hw) (ty := .int) (by decide) rfl rfl (g := (mkF m 11 #[.val (.ref r1), .val (.ref w_LIST), .val (.int (0 : Int32))] [(.int (0 : Int32)), (.ref r1)])) rfl rfl (hb hby d19_11)
  have Fw4 := fc3.same W4
  have KK4 : Keep h0 h4 [r1] := KK2.wr W4 (Or.inl (List.mem_of_getElem? (i := 0) rfl))
  have O4 := O2.wr W4 P6
  have N4 := Fr.snoc X4 N2 P6
  have fc5 := ((P4.other W2 (Or.inr (slot_ne (Or.inl (w153 hw)) (Or.inr (w149 hw)) (by decide) (t := .int) (t' := (.object sN3)) (by decide) (by decide)))).other W4 (Or.inr (slot_ne (Or.inl (w153 hw)) (Or.inr (w151 hw)) (by decide) (t := .int) (t' := .int) (by decide) (by decide))))
  obtain ⟨T6, h6, X6, e6, W6, st6⟩ := putF X4 hx hZ hown (host := "") (Or.inl (w152 hw)) Via.refl e4 fc5 ((P1.wr W2).wr W4) (Or.inl (w153 hw)) (w137 hw) (ty := .int) (by decide) rfl rfl (g := (mkF m 16 #[.val (.ref r1), .val (.ref w_LIST), .val (.int (0 : Int32))] [(.int (0 : Int32)), (.ref r1)])) rfl rfl (hb hby d19_16)
  have Fw6 := fc5.same W6
  have KK6 : Keep h0 h6 [r1] := KK4.wr W6 (Or.inl (List.mem_of_getElem? (i := 0) rfl))
  have O6 := O4.wr W6 P6
  have N6 := Fr.snoc X6 N4 P6
  have fc7 := (((P5.other W2 (Or.inr (slot_ne (Or.inr (w155 hw)) (Or.inr (w149 hw)) (by decide) (t := .boolean) (t' := (.object sN3)) (by decide) (by decide)))).other W4 (Or.inr (slot_ne (Or.inr (w155 hw)) (Or.inr (w151 hw)) (by decide) (t := .boolean) (t' := .int) (by decide) (by decide)))).other W6 (Or.inr (slot_ne (Or.inr (w155 hw)) (Or.inl (w153 hw)) (by decide) (t := .boolean) (t' := .int) (by decide) (by decide))))
  obtain ⟨T8, h8, X8, e8, W8, st8⟩ := putFN X6 hx hZ hown (w154 hw) Via.refl e6 fc7 (((P1.wr W2).wr W4).wr W6) (Or.inr ⟨(w155 hw), rfl, hnm⟩) (w137 hw) (ty := .boolean) (v' := (.int (0 : Int32))) (by decide) (by decide) (by decide) (g := (mkF m 21 #[.val (.ref r1), .val (.ref w_LIST), .val (.int (0 : Int32))] [(.int (0 : Int32)), (.ref r1)])) rfl rfl (hb hby d19_21)
  have Fw8 := fc7.same W8
  have KK8 : Keep h0 h8 [r1] := KK6.wr W8 (Or.inl (List.mem_of_getElem? (i := 0) rfl))
  have O8 := O6.wr W8 P6
  have N8 := Fr.snoc X8 N6 P6
  have fc9 := (((Fw2.other W4 (Or.inr (slot_ne (Or.inr (w149 hw)) (Or.inr (w151 hw)) (by decide) (t := (.object sN3)) (t' := .int) (by decide) (by decide)))).other W6 (Or.inr (slot_ne (Or.inr (w149 hw)) (Or.inl (w153 hw)) (by decide) (t := (.object sN3)) (t' := .int) (by decide) (by decide)))).other W8 (Or.inr (slot_ne (Or.inr (w149 hw)) (Or.inr (w155 hw)) (by decide) (t := (.object sN3)) (t' := .boolean) (by decide) (by decide))))
  have fc10 := ((Fw4.other W6 (Or.inr (slot_ne (Or.inr (w151 hw)) (Or.inl (w153 hw)) (by decide) (t := .int) (t' := .int) (by decide) (by decide)))).other W8 (Or.inr (slot_ne (Or.inr (w151 hw)) (Or.inr (w155 hw)) (by decide) (t := .int) (t' := .boolean) (by decide) (by decide))))
  have fc11 := (Fw6.other W8 (Or.inr (slot_ne (Or.inl (w153 hw)) (Or.inr (w155 hw)) (by decide) (t := .int) (t' := .boolean) (by decide) (by decide))))
  refine ⟨none, _, _, _, _, X8, (fun _ => rfl), ?_, by decide, by decide, fun fs hr => castTop (ef_19_RRI m r1 w_LIST (0 : Int32)) ?_⟩
  · show Q_rm19_0 Z r1 w_LIST n0 h0 _ T8.heap _
    rw [e8]
    exact ⟨rfl, N8, KK8, fc9, fc10, fc11, Fw8⟩
  · show Steps p.tables e below (s₁.setTop (mkF m 0 #[.val (.ref r1), .val (.ref w_LIST), .val (.int (0 : Int32))] [])) _
    refine XS.aloadN X0.here hx rfl (hb hby d19_0) rfl rfl ?_
    refine st1 _ ?_
    refine XS.aloadN X1.here hx rfl (hb hby d19_4) rfl rfl ?_
    refine XS.aloadN X1.here hx rfl (hb hby d19_5) rfl rfl ?_
    refine st2 _ ?_
    refine XS.aloadN X2.here hx rfl (hb hby d19_9) rfl rfl ?_
    refine XS.iloadN X2.here hx rfl (hb hby d19_10) rfl ?_
    refine st4 _ ?_
    show Steps p.tables e below (T4.setTop (mkF m 14 #[.val (.ref r1), .val (.ref w_LIST), .val (.int (0 : Int32))] [])) _
    refine XS.aloadN X4.here hx rfl (hb hby d19_14) rfl rfl ?_
    refine XS.iconst X4.here hx rfl (hb hby d19_15) ?_
    refine st6 _ ?_
    refine XS.aloadN X6.here hx rfl (hb hby d19_19) rfl rfl ?_
    refine XS.iconst X6.here hx rfl (hb hby d19_20) ?_
    refine st8 _ ?_
    exact X8.returnOut hx hret (hb hby d19_24) hr
def Q_rm18_0 (Z : State) (w_LIST : Addr) (w_LELS : Addr) (w_kLEL : ClassId) (n0 : Nat) (h0 : Heap) (v : Option Value) (h : Heap) (L : List Loc) : Prop := ∃ b1 : Addr, v = (some (.ref b1)) ∧ Fr n0 L ∧ Keep h0 h [] ∧ h0.size ≤ b1 ∧ Exa Z h b1 sN5 ∧ Fld Z h b1 sN5 "list" sN10 (.ref w_LIST) ∧ Fld Z h b1 sN5 "size" "I" (.int (0 : Int32)) ∧ Fld Z h b1 sN5 "cursor" "I" (.int (0 : Int32)) ∧ Fld Z h b1 sN5 sN19 "Z" (.int (0 : Int32))
theorem rm18_0 (l : Launch) (Z : State) (a0 : Array Value) (hw : own_HW a0 Z) (w_LIST : Addr) (w_LELS : Addr) (w_kLEL : ClassId) (h0 : Heap) (n0 : Nat) (O0 : Old Z n0 h0) (P1 : Exa Z Z.heap w_LIST sN7) (P2 : Fld Z Z.heap w_LIST sN7 "elements" sN4 (.ref w_LELS)) (P3 : Arv Z Z.heap w_LELS w_kLEL (.object sN1) (0 : Int32) [] .null) :
    own_Ct l Z yN8 jdk_46_method_10_code 1 (some (.object sN22)) ({ frames := 2, cells := 1, slots := 4, locals := 27 } : Room) #[(.ref w_LIST)] h0 (Q_rm18_0 Z w_LIST w_LELS w_kLEL n0 h0) := by
  refine own_enter (own := sN21) rfl (plainFor_of_name pn_19) ?_
  intro p e s m below meth c s₁ X0 hx hby hml hown hnm hret hZ e0
  have N0 := Fr.nil n0
  obtain ⟨T1, h1, X1, e1, E1, A1, D1, -, st1⟩ := newO X0 hx hZ hown (w136 hw) (w137 hw) (w138 hw) e0 (g := (mkF m 0 #[.val (.ref w_LIST)] [])) rfl (hb hby d18_0) (by decide) (by decide)
  obtain ⟨b1, gq1⟩ : ∃ z, z = h0.size := ⟨_, rfl⟩
  rw [← gq1] at A1 D1 st1
  have g_b1 : n0 ≤ b1 := Nat.le_trans ((O0.1 ▸ O0.2.1) : n0 ≤ h0.size) (Nat.le_of_eq gq1.symm)
  have sz_b1 : h0.size ≤ b1 := Nat.le_trans (Keep.refl h0 []).1 (Nat.le_of_eq gq1.symm)
  have KK1 : Keep h0 h1 [] := (Keep.refl h0 []).ext E1
  have O1 := O0.ext E1
  have F_list_b1 : Fld Z h1 b1 sN5 "list" sN10 .null := D1 (Or.inr (w149 hw)) (ty := (.object sN3)) (by decide)
  have F_size_b1 : Fld Z h1 b1 sN5 "size" "I" (.int (0 : Int32)) := D1 (Or.inr (w151 hw)) (ty := .int) (by decide)
  have F_cursor_b1 : Fld Z h1 b1 sN5 "cursor" "I" (.int (0 : Int32)) := D1 (Or.inl (w153 hw)) (ty := .int) (by decide)
  have F_isListIterator_b1 : Fld Z h1 b1 sN5 sN19 "Z" (.int (0 : Int32)) := D1 (Or.inr (w155 hw)) (ty := .boolean) (by decide)
  obtain ⟨_, T2, L2, X2, hQ2, st2⟩ := own_cU (owner := sN29) X1 hx hZ hown (w139 hw) (w140 hw) (w141 hw) (w142 hw) (w115 hw) (w119 hw) (w120 hw) (by decide) (P1.ext O1.2) (rm17_0 l Z a0 hw w_LIST w_LELS w_kLEL h1 n0 O1 P2 P3) e1 (hb hby d18_6) hml pd_15 [] [(.ref w_LIST), (.ref b1), (.ref b1)] (g := (mkF m 6 #[.val (.ref w_LIST)] [(.ref w_LIST), (.ref w_LIST), (.ref b1), (.ref b1)]))
  obtain ⟨rfl, N2q, e2⟩ := hQ2
  have N2 := Fr.app N0 N2q
  obtain ⟨_, T3, L3, X3, hQ3, st3⟩ := own_cI X2 hx hZ hown rfl (w143 hw) (w144 hw) (w138 hw) (w146 hw) (rm19_0 l Z a0 hw b1 w_LIST h1 n0 O1 A1 F_list_b1 F_size_b1 F_cursor_b1 F_isListIterator_b1 g_b1) e2 (hb hby d18_9) hml pd_18 [(.ref w_LIST), (.int (0 : Int32))] [(.ref b1)] (g := (mkF m 9 #[.val (.ref w_LIST)] [(.int (0 : Int32)), (.ref w_LIST), (.ref b1), (.ref b1)]))
  obtain ⟨rfl, N3q, K3, f3_0, f3_1, f3_2, f3_3⟩ := hQ3
  have KK3 : Keep h0 T3.heap [] := KK1.trans K3 (allS (Or.inr sz_b1) all0)
  have O3 := O1.keep K3 (allS g_b1 all0)
  have N3 := Fr.app N2 N3q
  refine ⟨(some (.ref b1)), _, _, _, _, X3, (fun h => nomatch h), ?_, by decide, by decide, fun fs hr => castTop (ef_18_R m w_LIST) ?_⟩
  · show Q_rm18_0 Z w_LIST w_LELS w_kLEL n0 h0 _ T3.heap _
    exact ⟨b1, rfl, N3, KK3, sz_b1, (A1.keep K3), f3_0, f3_1, f3_2, f3_3⟩
  · show Steps p.tables e below (s₁.setTop (mkF m 0 #[.val (.ref w_LIST)] [])) _
    refine st1 _ ?_
    refine XS.dup X1.here hx rfl (hb hby d18_3) rfl rfl ?_
    refine XS.aloadN X1.here hx rfl (hb hby d18_4) rfl rfl ?_
    refine XS.aloadN X1.here hx rfl (hb hby d18_5) rfl rfl ?_
    refine st2 _ ?_
    refine st3 _ ?_
    exact retA X3 hx hret rfl rfl rfl (hb hby d18_12) hr
theorem rm20_0 (l : Launch) (Z : State) (a0 : Array Value) (hw : own_HW a0 Z) (r1 : Addr) (h0 : Heap) (n0 : Nat) (O0 : Old Z n0 h0) (P1 : Fld Z h0 r1 sN5 "cursor" "I" (.int (0 : Int32))) (P2 : Fld Z h0 r1 sN5 "size" "I" (.int (0 : Int32))) :
    own_Ct l Z yN2 jdk_53_method_3_code 1 (some .boolean) ({ frames := 0, cells := 0, slots := 0, locals := 0 } : Room) #[(.ref r1)] h0 (own_QP (some (.int (0 : Int32))) n0 h0) := by
  refine own_enter (own := sN5) rfl (plainFor_of_name pn_16) ?_
  intro p e s m below meth c s₁ X0 hx hby hml hown hnm hret hZ e0
  have N0 := Fr.nil n0
  obtain ⟨T1, X1, e1, st1⟩ := getF X0 hx hZ hown (host := "") (Or.inl (w152 hw)) Via.refl e0 P1 (g := (mkF m 1 #[.val (.ref r1)] [(.ref r1)])) rfl rfl (hb hby d20_1)
  obtain ⟨T2, X2, e2, st2⟩ := getF X1 hx hZ hown (host := "") (Or.inl (w150 hw)) Via.refl e1 P2 (g := (mkF m 5 #[.val (.ref r1)] [(.ref r1), (.int (0 : Int32))])) rfl rfl (hb hby d20_5)
  refine ⟨(some (.int (0 : Int32))), _, _, _, _, X2, (fun h => nomatch h), ?_, by decide, by decide, fun fs hr => castTop (ef_20_R m r1) ?_⟩
  · show own_QP (some (.int (0 : Int32))) n0 h0 _ T2.heap _
    rw [e2]
    exact ⟨rfl, N0, rfl⟩
  · show Steps p.tables e below (s₁.setTop (mkF m 0 #[.val (.ref r1)] [])) _
    refine XS.aloadN X0.here hx rfl (hb hby d20_0) rfl rfl ?_
    refine st1 _ ?_
    refine XS.aloadN X1.here hx rfl (hb hby d20_4) rfl rfl ?_
    refine st2 _ ?_
    refine XS.icmpYes X2.here hx rfl (pc0 := 8) (pc' := 15) rfl (hb hby d20_8) rfl (by decide) (by decide) (by decide) ?_
    refine XS.iconst X2.here hx rfl (hb hby d20_15) ?_
    exact retN X2 hx (t := .boolean) hret (by simp) (hb hby d20_16) hr
theorem rm11_0 (l : Launch) (Z : State) (a0 : Array Value) (hw : own_HW a0 Z) (r1 : Addr) (w_BOOLEAN : Addr) (r2 : Addr) (w_LIST : Addr) (w_LELS : Addr) (w_kLEL : ClassId) (h0 : Heap) (n0 : Nat) (O0 : Old Z n0 h0) (P1 : Exa Z Z.heap w_BOOLEAN sN12) (P2 : Exa Z h0 r1 sN2) (P3 : Fld Z h0 r1 sN2 "dataType" sN15 .null) (P4 : Fld Z h0 r1 sN2 "values" sN10 .null) (P5 : Fld Z h0 r1 sN2 "size" "I" (.int (0 : Int32))) (P6 : Fld Z h0 r1 sN2 "parts" sN10 .null) (P7 : n0 ≤ r1) (P8 : Exa Z h0 r2 sN0) (P9 : Fld Z h0 r2 sN0 "size" "I" (.int (0 : Int32))) (P10 : Sta Z Z.heap sN14 "EMPTY_LIST" sN34 (.ref w_LIST)) (P11 : Exa Z Z.heap w_LIST sN7) (P12 : Fld Z Z.heap w_LIST sN7 "elements" sN4 (.ref w_LELS)) (P13 : Arv Z Z.heap w_LELS w_kLEL (.object sN1) (0 : Int32) [] .null) :
    own_Ct l Z yN10 prog_167_method_1_code 5 none ({ frames := 9, cells := 4, slots := 12, locals := 126 } : Room) #[(.ref r1), (.ref w_BOOLEAN), (.ref r2)] h0 (own_QB Z r1 w_BOOLEAN (0 : Int32) n0 h0) := by
  refine own_enter (own := sN2) rfl (plainFor_of_name pn_23) ?_
  intro p e s m below meth c s₁ X0 hx hby hml hown hnm hret hZ e0
  have N0 := Fr.nil n0
  obtain ⟨T1, X1, e1, st1⟩ := initO X0 hx hZ hown (w73 hw) (w19 hw) (w20 hw) e0 (g := (mkF m 1 #[.val (.ref r1), .val (.ref w_BOOLEAN), .val (.ref r2), .unset, .unset] [(.ref r1)])) rfl (by rw [hml]; rfl) rfl (hb hby d11_1) (by decide) (W := 0) (by show 2 * 0 + _ ≤ _; exact Nat.le_of_eq rfl) (by decide)
  obtain ⟨_, T2, L2, X2, hQ2, st2⟩ := own_cS X1 hx hZ hown (w74 hw) (w75 hw) (w76 hw) (w77 hw) (rm12_0 l Z a0 hw w_BOOLEAN h0 n0 O0 ) e1 (hb hby d11_6) hml pd_2 [(.ref w_BOOLEAN)] [(.ref r1)] (g := (mkF m 6 #[.val (.ref r1), .val (.ref w_BOOLEAN), .val (.ref r2), .unset, .unset] [(.ref w_BOOLEAN), (.ref r1)]))
  obtain ⟨rfl, N2q, e2⟩ := hQ2
  have N2 := Fr.app N0 N2q
  obtain ⟨T3, X3, e3, st3⟩ := castY X2 hx hZ hown (w78 hw) e2 (Ins.self (P1.ext O0.2)) (g := (mkF m 9 #[.val (.ref r1), .val (.ref w_BOOLEAN), .val (.ref r2), .unset, .unset] [(.ref w_BOOLEAN), (.ref r1)])) rfl rfl (hb hby d11_9)
  obtain ⟨T4, h4, X4, e4, W4, st4⟩ := putF X3 hx hZ hown (host := "") (Or.inl (w80 hw)) Via.refl e3 P3 P2 (Or.inr ⟨(w81 hw), rfl, hnm⟩) (w65 hw) (ty := (.object sN12)) (by decide) rfl rfl (g := (mkF m 12 #[.val (.ref r1), .val (.ref w_BOOLEAN), .val (.ref r2), .unset, .unset] [(.ref w_BOOLEAN), (.ref r1)])) rfl rfl (hb hby d11_12)
  have Fw4 := P3.same W4
  have KK4 : Keep h0 h4 [r1] := (Keep.refl h0 [r1]).wr W4 (Or.inl (List.mem_of_getElem? (i := 0) rfl))
  have O4 := O0.wr W4 P7
  have N4 := Fr.snoc X4 N2 P7
  have nz5 : r2 ≠ r1 := (ne_exa P8 P2 (by decide))
  obtain ⟨_, T6, L6, X6, hQ6, st6⟩ := own_cS X4 hx hZ hown (w82 hw) (w83 hw) (w84 hw) (w85 hw) (rm13_0 l Z a0 hw r2 w_LIST h4 n0 O4 (P8.wr W4) (P9.other W4 (Or.inl nz5)) P10) e4 (hb hby d11_17) hml pd_11 [(.ref r2)] [(.ref r1)] (g := (mkF m 17 #[.val (.ref r1), .val (.ref w_BOOLEAN), .val (.ref r2), .unset, .unset] [(.ref r2), (.ref r1)]))
  obtain ⟨rfl, N6q, e6⟩ := hQ6
  have N6 := Fr.app N4 N6q
  have fc7 := (P4.other W4 (Or.inr (slot_ne (Or.inr (w110 hw)) (Or.inr (w81 hw)) (by decide) (t := (.object sN3)) (t' := (.object sN12)) (by decide) (by decide))))
  obtain ⟨T8, h8, X8, e8, W8, st8⟩ := putF X6 hx hZ hown (host := "") (Or.inl (w109 hw)) Via.refl e6 fc7 (P2.wr W4) (Or.inr ⟨(w110 hw), rfl, hnm⟩) (w65 hw) (ty := (.object sN3)) (by decide) rfl rfl (g := (mkF m 20 #[.val (.ref r1), .val (.ref w_BOOLEAN), .val (.ref r2), .unset, .unset] [(.ref w_LIST), (.ref r1)])) rfl rfl (hb hby d11_20)
  have Fw8 := fc7.same W8
  have KK8 : Keep h0 h8 [r1] := KK4.wr W8 (Or.inl (List.mem_of_getElem? (i := 0) rfl))
  have O8 := O4.wr W8 P7
  have N8 := Fr.snoc X8 N6 P7
  obtain ⟨T9, X9, e9, st9⟩ := getF X8 hx hZ hown (host := "") (Or.inl (w109 hw)) Via.refl e8 Fw8 (g := (mkF m 25 #[.val (.ref r1), .val (.ref w_BOOLEAN), .val (.ref r2), .unset, .unset] [(.ref r1), (.ref r1)])) rfl rfl (hb hby d11_25)
  obtain ⟨_, T10, L10, X10, hQ10, st10⟩ := own_cF X9 hx hZ hown (w111 hw) (w112 hw) (w113 hw) (w114 hw) (w115 hw) (w116 hw) (w117 hw) (w118 hw) (w119 hw) (w120 hw) (P11.ext O8.2) (rm17_0 l Z a0 hw w_LIST w_LELS w_kLEL h8 n0 O8 P12 P13) e9 (hb hby d11_28) hml pd_15 [] [(.ref r1)] (g := (mkF m 28 #[.val (.ref r1), .val (.ref w_BOOLEAN), .val (.ref r2), .unset, .unset] [(.ref w_LIST), (.ref r1)]))
  obtain ⟨rfl, N10q, e10⟩ := hQ10
  have N10 := Fr.app N8 N10q
  have fc11 := ((P5.other W4 (Or.inr (slot_ne (Or.inr (w124 hw)) (Or.inr (w81 hw)) (by decide) (t := .int) (t' := (.object sN12)) (by decide) (by decide)))).other W8 (Or.inr (slot_ne (Or.inr (w124 hw)) (Or.inr (w110 hw)) (by decide) (t := .int) (t' := (.object sN3)) (by decide) (by decide))))
  obtain ⟨T12, h12, X12, e12, W12, st12⟩ := putF X10 hx hZ hown (host := "") (Or.inl (w123 hw)) Via.refl e10 fc11 ((P2.wr W4).wr W8) (Or.inr ⟨(w124 hw), rfl, hnm⟩) (w65 hw) (ty := .int) (by decide) rfl rfl (g := (mkF m 33 #[.val (.ref r1), .val (.ref w_BOOLEAN), .val (.ref r2), .unset, .unset] [(.int (0 : Int32)), (.ref r1)])) rfl rfl (hb hby d11_33)
  have Fw12 := fc11.same W12
  have KK12 : Keep h0 h12 [r1] := KK8.wr W12 (Or.inl (List.mem_of_getElem? (i := 0) rfl))
  have O12 := O8.wr W12 P7
  have N12 := Fr.snoc X12 N10 P7
  have fc13 := (((P6.other W4 (Or.inr (slot_ne (Or.inr (w126 hw)) (Or.inr (w81 hw)) (by decide) (t := (.object sN3)) (t' := (.object sN12)) (by decide) (by decide)))).other W8 (Or.inr (slot_ne (Or.inr (w126 hw)) (Or.inr (w110 hw)) (by decide) (t := (.object sN3)) (t' := (.object sN3)) (by decide) (by decide)))).other W12 (Or.inr (slot_ne (Or.inr (w126 hw)) (Or.inr (w124 hw)) (by decide) (t := (.object sN3)) (t' := .int) (by decide) (by decide))))
  obtain ⟨T14, h14, X14, e14, W14, st14⟩ := putF X12 hx hZ hown (host := "") (Or.inl (w125 hw)) Via.refl e12 fc13 (((P2.wr W4).wr W8).wr W12) (Or.inr ⟨(w126 hw), rfl, hnm⟩) (w65 hw) (ty := (.object sN3)) (by decide) rfl rfl (g := (mkF m 38 #[.val (.ref r1), .val (.ref w_BOOLEAN), .val (.ref r2), .unset, .unset] [.null, (.ref r1)])) rfl rfl (hb hby d11_38)
  have Fw14 := fc13.same W14
  have KK14 : Keep h0 h14 [r1] := KK12.wr W14 (Or.inl (List.mem_of_getElem? (i := 0) rfl))
  have O14 := O12.wr W14 P7
  have N14 := Fr.snoc X14 N12 P7
  have fc15 := ((Fw8.other W12 (Or.inr (slot_ne (Or.inr (w110 hw)) (Or.inr (w124 hw)) (by decide) (t := (.object sN3)) (t' := .int) (by decide) (by decide)))).other W14 (Or.inr (slot_ne (Or.inr (w110 hw)) (Or.inr (w126 hw)) (by decide) (t := (.object sN3)) (t' := (.object sN3)) (by decide) (by decide))))
  obtain ⟨T16, X16, e16, st16⟩ := getF X14 hx hZ hown (host := "") (Or.inl (w109 hw)) Via.refl e14 fc15 (g := (mkF m 42 #[.val (.ref r1), .val (.ref w_BOOLEAN), .val (.ref r2), .unset, .unset] [(.ref r1)])) rfl rfl (hb hby d11_42)
  obtain ⟨_, T17, L17, X17, hQ17, st17⟩ := own_cF X16 hx hZ hown (w127 hw) (w128 hw) (w129 hw) (w130 hw) (w131 hw) (w132 hw) (w133 hw) (w118 hw) (w134 hw) (w135 hw) (P11.ext O14.2) (rm18_0 l Z a0 hw w_LIST w_LELS w_kLEL h14 n0 O14 P11 P12 P13) e16 (hb hby d11_45) hml pd_21 [] [] (g := (mkF m 45 #[.val (.ref r1), .val (.ref w_BOOLEAN), .val (.ref r2), .unset, .unset] [(.ref w_LIST)]))
  obtain ⟨b17_0, rfl, N17q, K17, ge_b17_0, f17_0, f17_1, f17_2, f17_3, f17_4⟩ := hQ17
  have g_b17_0 : n0 ≤ b17_0 := Nat.le_trans ((O14.1 ▸ O14.2.1) : n0 ≤ h14.size) ge_b17_0
  have sz_b17_0 : h0.size ≤ b17_0 := Nat.le_trans KK14.1 ge_b17_0
  have KK17 : Keep h0 T17.heap [r1] := KK14.trans K17 all0
  have O17 := O14.keep K17 all0
  have N17 := Fr.app N14 N17q
  obtain ⟨_, T18, L18, X18, hQ18, st18⟩ := own_cF X17 hx hZ hown (w156 hw) (w157 hw) (w158 hw) (w159 hw) (w160 hw) (w161 hw) (w162 hw) (w163 hw) (w138 hw) (w164 hw) f17_0 (rm20_0 l Z a0 hw b17_0 T17.heap n0 O17 f17_3 f17_2) rfl (hb hby d11_52) hml pd_5 [] [] (g := (mkF m 52 #[.val (.ref r1), .val (.ref w_BOOLEAN), .val (.ref r2), .val (.ref b17_0), .unset] [(.ref b17_0)]))
  obtain ⟨rfl, N18q, e18⟩ := hQ18
  have N18 := Fr.app N17 N18q
  have fc19 := (((((P2.wr W4).wr W8).wr W12).wr W14).keep K17)
  have fc20 := ((((Fw4.other W8 (Or.inr (slot_ne (Or.inr (w81 hw)) (Or.inr (w110 hw)) (by decide) (t := (.object sN12)) (t' := (.object sN3)) (by decide) (by decide)))).other W12 (Or.inr (slot_ne (Or.inr (w81 hw)) (Or.inr (w124 hw)) (by decide) (t := (.object sN12)) (t' := .int) (by decide) (by decide)))).other W14 (Or.inr (slot_ne (Or.inr (w81 hw)) (Or.inr (w126 hw)) (by decide) (t := (.object sN12)) (t' := (.object sN3)) (by decide) (by decide)))).keep K17 nin0)
  have fc21 := ((Fw12.other W14 (Or.inr (slot_ne (Or.inr (w124 hw)) (Or.inr (w126 hw)) (by decide) (t := .int) (t' := (.object sN3)) (by decide) (by decide)))).keep K17 nin0)
  refine ⟨none, _, _, _, _, X18, (fun _ => rfl), ?_, by decide, by decide, fun fs hr => castTop (ef_11_RRR m r1 w_BOOLEAN r2) ?_⟩
  · show own_QB Z r1 w_BOOLEAN (0 : Int32) n0 h0 _ T18.heap _
    rw [e18]
    exact ⟨rfl, N18, KK17, fc20, fc21, (Fw14.keep K17 nin0)⟩
  · show Steps p.tables e below (s₁.setTop (mkF m 0 #[.val (.ref r1), .val (.ref w_BOOLEAN), .val (.ref r2), .unset, .unset] [])) _
    refine XS.aloadN X0.here hx rfl (hb hby d11_0) rfl rfl ?_
    refine st1 _ ?_
    refine XS.aloadN X1.here hx rfl (hb hby d11_4) rfl rfl ?_
    refine XS.aloadN X1.here hx rfl (hb hby d11_5) rfl rfl ?_
    refine st2 _ ?_
    refine st3 _ ?_
    refine st4 _ ?_
    refine XS.aloadN X4.here hx rfl (hb hby d11_15) rfl rfl ?_
    show Steps p.tables e below (T4.setTop (mkF m 16 #[.val (.ref r1), .val (.ref w_BOOLEAN), .val (.ref r2), .unset, .unset] [(.ref r1)])) _
    refine XS.aloadN X4.here hx rfl (hb hby d11_16) rfl rfl ?_
    refine st6 _ ?_
    refine st8 _ ?_
    refine XS.aloadN X8.here hx rfl (hb hby d11_23) rfl rfl ?_
    refine XS.aloadN X8.here hx rfl (hb hby d11_24) rfl rfl ?_
    refine st9 _ ?_
    refine st10 _ ?_
    refine st12 _ ?_
    show Steps p.tables e below (T12.setTop (mkF m 36 #[.val (.ref r1), .val (.ref w_BOOLEAN), .val (.ref r2), .unset, .unset] [])) _
    refine XS.aloadN X12.here hx rfl (hb hby d11_36) rfl rfl ?_
    refine XS.aconstNull X12.here hx rfl (hb hby d11_37) ?_
    refine st14 _ ?_
    refine XS.aloadN X14.here hx rfl (hb hby d11_41) rfl rfl ?_
    refine st16 _ ?_
    refine st17 _ ?_
    refine XS.astoreN X17.here hx rfl (hb hby d11_50) rfl rfl (l' := #[.val (.ref r1), .val (.ref w_BOOLEAN), .val (.ref r2), .val (.ref b17_0), .unset]) rfl ?_
    refine XS.aloadN X17.here hx rfl (hb hby d11_51) rfl rfl ?_
    show Steps p.tables e below (T17.setTop (mkF m 52 #[.val (.ref r1), .val (.ref w_BOOLEAN), .val (.ref r2), .val (.ref b17_0), .unset] [(.ref b17_0)])) _
    refine st18 _ ?_
    refine XS.ifYes X18.here hx rfl (pc0 := 57) (pc' := 105) rfl (hb hby d11_57) rfl (by decide) (by decide) (by decide) ?_
    exact X18.returnOut hx hret (hb hby d11_105) hr
theorem rm15_1 (l : Launch) (Z : State) (a0 : Array Value) (hw : own_HW a0 Z) (r1 : Addr) (h0 : Heap) (n0 : Nat) (O0 : Old Z n0 h0) (P1 : Fld Z h0 r1 sN0 "size" "I" (.int (1 : Int32))) :
    own_Ct l Z yN13 jdk_38_method_9_code 1 (some .boolean) ({ frames := 0, cells := 0, slots := 0, locals := 0 } : Room) #[(.ref r1)] h0 (own_QP (some (.int (0 : Int32))) n0 h0) := by
  refine own_enter (own := sN0) rfl (plainFor_of_name pn_3) ?_
  intro p e s m below meth c s₁ X0 hx hby hml hown hnm hret hZ e0
  have N0 := Fr.nil n0
  obtain ⟨T1, X1, e1, st1⟩ := getF X0 hx hZ hown (host := "") (Or.inl (w40 hw)) Via.refl e0 P1 (g := (mkF m 1 #[.val (.ref r1)] [(.ref r1)])) rfl rfl (hb hby d15_1)
  refine ⟨(some (.int (0 : Int32))), _, _, _, _, X1, (fun h => nomatch h), ?_, by decide, by decide, fun fs hr => castTop (ef_15_R m r1) ?_⟩
  · show own_QP (some (.int (0 : Int32))) n0 h0 _ T1.heap _
    rw [e1]
    exact ⟨rfl, N0, rfl⟩
  · show Steps p.tables e below (s₁.setTop (mkF m 0 #[.val (.ref r1)] [])) _
    refine XS.aloadN X0.here hx rfl (hb hby d15_0) rfl rfl ?_
    refine st1 _ ?_
    refine XS.ifYes X1.here hx rfl (pc0 := 4) (pc' := 11) rfl (hb hby d15_4) rfl (by decide) (by decide) (by decide) ?_
    refine XS.iconst X1.here hx rfl (hb hby d15_11) ?_
    exact retN X1 hx (t := .boolean) hret (by simp) (hb hby d15_12) hr
theorem rm24_0 (l : Launch) (Z : State) (a0 : Array Value) (hw : ∀ d ∈ tables_1, d.before a0 Z = true)  (h0 : Heap) (n0 : Nat) (O0 : Old Z n0 h0)  :
    MetFree l yN4 (head1 [Jvm.Cond.code yN4 jdk_29_method_69_code 2 (some .int)] ({ frames := 0, cells := 0, slots := 0, locals := 0 } : Room)) (fun a U => a = #[(.int (10 : Int32)), (.int (1 : Int32))] ∧ Z.Warmed39 U.vm ∧ U.heap = h0) (fun _ _ _ _ _ => True) (fun _ U o U' => ∃ v L, o = .returned v ∧ own_QP (some (.int (1 : Int32))) n0 h0 v U'.heap L ∧ FrameEnd U o U' L ({ frames := 0, cells := 0, slots := 0, locals := 0 } : Room).cells ({ frames := 0, cells := 0, slots := 0, locals := 0 } : Room).slots) := by
  refine MetFree.of_bodySF (Jvm.Free.JP.mathPlain rfl (by decide +kernel)) hisR ?_
  intro p e s m args below meth c s₁ Bd hml0 hP hK
  obtain ⟨rfl, hZ, hh⟩ := hP
  have hx := Bd.exec
  have hby := Bd.bytes
  have hml : c.maxLocals = 2 := hml0
  have hown : s.vm.findClass sN27 = some m.cls := findClass_of_methodNamed Bd.named
  have hnm := (name_of_methodNamed Bd.named Bd.method).1
  have X0 : Stand p l e ({ frames := 0, cells := 0, slots := 0, locals := 0 } : Room) s m #[(.int (10 : Int32)), (.int (1 : Int32))] below meth c s₁ [] 0 0 := Stand.of_body Bd
  have e0 : s₁.heap = h0 := by rw [← hh, Bd.state]; rfl
  have N0 := Fr.nil n0
  have pre0 : ∀ t, Steps p.tables e below (s₁.setTop (mkF m 0 #[.val (.int (10 : Int32)), .val (.int (1 : Int32))] [])) t → Steps p.tables e below (s₁.setTop (entryFrame m #[(.int (10 : Int32)), (.int (1 : Int32))] 2)) t := fun t k => castTop (ef_24_II m (10 : Int32) (1 : Int32)) k
  obtain ⟨fs, hr, hrun, hended, hW, hsame⟩ := X0.leave (v := (some (.int (1 : Int32)))) (fun h => by rw [Bd.returns] at h; cases h)
  refine ⟨_, _, pre0 _ ?_, hrun, hended, _, _, rfl, ?_, ⟨_, rfl⟩, hW, hsame.mono (by decide) (by decide)⟩
  · show Steps p.tables e below (s₁.setTop (mkF m 0 #[.val (.int (10 : Int32)), .val (.int (1 : Int32))] [])) _
    refine XS.iloadN X0.here hx rfl (hb hby d24_0) rfl ?_
    refine XS.iloadN X0.here hx rfl (hb hby d24_1) rfl ?_
    refine XS.icmpYes X0.here hx rfl (pc0 := 2) (pc' := 9) rfl (hb hby d24_2) rfl (by decide) (by decide) (by decide) ?_
    refine XS.iloadN X0.here hx rfl (hb hby d24_9) rfl ?_
    exact retI X0 hx Bd.returns (hb hby d24_10) hr
  · show own_QP (some (.int (1 : Int32))) n0 h0 _ s₁.heap _
    rw [e0]
    exact ⟨rfl, N0, rfl⟩
def Q_rm23_0 (Z : State) (r1 : Addr) (w_MIR : Addr) (w_x0 : Addr) (k_r1 : ClassId) (n0 : Nat) (h0 : Heap) (v : Option Value) (h : Heap) (L : List Loc) : Prop := ∃ b2 : Addr, ∃ k2 : ClassId, v = (some (.ref b2)) ∧ Fr n0 L ∧ Keep h0 h [] ∧ h0.size ≤ b2 ∧ Exa Z h b2 sN4 ∧ Arv Z h b2 k2 (.object sN1) (1 : Int32) [(.ref w_x0)] .null ∧ Ovr Z k2 sN1
theorem rm23_0 (l : Launch) (Z : State) (a0 : Array Value) (hw : own_HW a0 Z) (r1 : Addr) (w_MIR : Addr) (w_x0 : Addr) (k_r1 : ClassId) (h0 : Heap) (n0 : Nat) (O0 : Old Z n0 h0) (P1 : Mir Z sN4 w_MIR) (P2 : Arv Z h0 r1 k_r1 (.object sN1) (10 : Int32) [(.ref w_x0), .null, .null, .null, .null, .null, .null, .null, .null, .null] .null) (P3 : Exa Z Z.heap w_x0 sN9) :
    own_Ct l Z yN21 jdk_65_method_120_code 4 (some (.array (.object sN1))) ({ frames := 1, cells := 1, slots := 1, locals := 60 } : Room) #[(.ref r1), (.int (1 : Int32)), (.ref w_MIR)] h0 (Q_rm23_0 Z r1 w_MIR w_x0 k_r1 n0 h0) := by
  refine own_enter (own := sN20) rfl (plainFor_of_name pn_27) ?_
  intro p e s m below meth c s₁ X0 hx hby hml hown hnm hret hZ e0
  have N0 := Fr.nil n0
  obtain ⟨T1, X1, e1, st1⟩ := own_ldcM X0 hx hZ hown (w186 hw) e0 P1 (g := (mkF m 1 #[.val (.ref r1), .val (.int (1 : Int32)), .val (.ref w_MIR), .unset] [(.ref w_MIR)])) rfl (hb hby d23_1)
  obtain ⟨T2, h2, k2, X2, e2, E2, A2, Ea2, Ov2, st2⟩ := newRE X1 hx hZ hown (w187 hw) (w62 hw) e1 (g := (mkF m 7 #[.val (.ref r1), .val (.int (1 : Int32)), .val (.ref w_MIR), .unset] [(.int (1 : Int32))])) rfl (hb hby d23_7) rfl (by decide) (cap := 1) (by decide) (by decide) (by decide) (by decide) (ad := sN4) (by decide)
  obtain ⟨b2, gq2⟩ : ∃ z, z = h0.size := ⟨_, rfl⟩
  rw [← gq2] at A2 st2 Ea2
  have g_b2 : n0 ≤ b2 := Nat.le_trans ((O0.1 ▸ O0.2.1) : n0 ≤ h0.size) (Nat.le_of_eq gq2.symm)
  have sz_b2 : h0.size ≤ b2 := Nat.le_trans (Keep.refl h0 []).1 (Nat.le_of_eq gq2.symm)
  have KK2 : Keep h0 h2 [] := (Keep.refl h0 []).ext E2
  have O2 := O0.ext E2
  have V2 : Arv Z h2 b2 k2 (.object sN1) (1 : Int32) [.null] .null := (Arv.new A2 (by decide)).pad (pad_rep [] .null 1)
  obtain ⟨cl3, Ar3, -, Sr3, Nr3, -, -⟩ := id (P2.ext E2)
  obtain ⟨_, T4, L4, X4, hQ4, st4⟩ := own_cS X2 hx hZ hown (w188 hw) (w189 hw) (w59 hw) (w190 hw) (rm24_0 l Z a0 hw  h2 n0 O2 ) e2 (hb hby d23_32) hml pd_26 [(.int (10 : Int32)), (.int (1 : Int32))] [(.int (0 : Int32)), (.ref b2), (.int (0 : Int32)), (.ref r1)] (g := (mkF m 32 #[.val (.ref r1), .val (.int (1 : Int32)), .val (.ref w_MIR), .val (.ref b2)] [(.int (1 : Int32)), (.int (10 : Int32)), (.int (0 : Int32)), (.ref b2), (.int (0 : Int32)), (.ref r1)]))
  obtain ⟨rfl, N4q, e4⟩ := hQ4
  have N4 := Fr.app N0 N4q
  obtain ⟨cb5, Ab5, qb5, -⟩ := id V2
  obtain ⟨T6, h6, L6, X6, e6, N6, K6, V6, st6⟩ := cpA X4 hx hZ hown (w191 hw) (w194 hw) (w192 hw) (w193 hw) e4 (us := [(.ref w_x0)]) (P2.ext E2) V2 (Or.inr ⟨rfl, rfl, ⟨Sto.ofV Ab5 qb5 Ov2 (Ins.of_exa (P3.ext O2.2) (w63 hw)), trivial⟩⟩) (by decide) (by decide) (by decide) (by decide) (by decide) rfl (by decide) N4 g_b2 (g := (mkF m 35 #[.val (.ref r1), .val (.int (1 : Int32)), .val (.ref w_MIR), .val (.ref b2)] [(.int (1 : Int32)), (.int (0 : Int32)), (.ref b2), (.int (0 : Int32)), (.ref r1)])) rfl (by rw [hml]; rfl) rfl (hb hby d23_35) (by decide) (W := 0) (by show 2 * 0 + _ ≤ _; exact Nat.le_of_eq rfl) (by decide)
  have KK6 : Keep h0 h6 [] := KK2.trans K6 (allS (Or.inr sz_b2) all0)
  have O6 := O2.keep K6 (allS g_b2 all0)
  refine ⟨(some (.ref b2)), _, _, _, _, X6, (fun h => nomatch h), ?_, by decide, by decide, fun fs hr => castTop (ef_23_RIR m r1 (1 : Int32) w_MIR) ?_⟩
  · show Q_rm23_0 Z r1 w_MIR w_x0 k_r1 n0 h0 _ T6.heap _
    rw [e6]
    exact ⟨b2, k2, rfl, N6, KK6, sz_b2, (Ea2.keep K6), V6, Ov2⟩
  · show Steps p.tables e below (s₁.setTop (mkF m 0 #[.val (.ref r1), .val (.int (1 : Int32)), .val (.ref w_MIR), .unset] [])) _
    refine XS.aloadN X0.here hx rfl (hb hby d23_0) rfl rfl ?_
    refine st1 _ ?_
    refine Jvm.RoadKit.acmp (g := (mkF m 3 #[.val (.ref r1), .val (.int (1 : Int32)), .val (.ref w_MIR), .unset] [(.ref w_MIR), (.ref w_MIR)])) X1 hx rfl rfl rfl (pc0 := 3) (pc' := 6) (same := true) rfl (hb hby d23_3) rfl (decide_eq_true rfl) (by decide) (by decide) ?_
    refine XS.iloadN X1.here hx rfl (hb hby d23_6) rfl ?_
    refine st2 _ ?_
    refine XS.goto X2.here hx rfl (pc0 := 10) (pc' := 24) rfl (hb hby d23_10) (by decide) (by decide) ?_
    refine XS.astoreN X2.here hx rfl (hb hby d23_24) rfl rfl (l' := #[.val (.ref r1), .val (.int (1 : Int32)), .val (.ref w_MIR), .val (.ref b2)]) rfl ?_
    refine XS.aloadN X2.here hx rfl (hb hby d23_25) rfl rfl ?_
    show Steps p.tables e below (T2.setTop (mkF m 26 #[.val (.ref r1), .val (.int (1 : Int32)), .val (.ref w_MIR), .val (.ref b2)] [(.ref r1)])) _
    refine XS.iconst X2.here hx rfl (hb hby d23_26) ?_
    refine XS.aloadN X2.here hx rfl (hb hby d23_27) rfl rfl ?_
    refine XS.iconst X2.here hx rfl (hb hby d23_28) ?_
    refine XS.aloadN X2.here hx rfl (hb hby d23_29) rfl rfl ?_
    refine X2.arraylength hx (by rw [e2]; exact Ar3.1) (State.isArrayOf_alike hZ.alike Ar3.2.1) (g := (mkF m 30 #[.val (.ref r1), .val (.int (1 : Int32)), .val (.ref w_MIR), .val (.ref b2)] [(.ref r1), (.int (0 : Int32)), (.ref b2), (.int (0 : Int32)), (.ref r1)])) rfl rfl (hb hby d23_30) _ ?_
    rw [len_of Sr3 Nr3]
    refine XS.iloadN X2.here hx rfl (hb hby d23_31) rfl ?_
    refine st4 _ ?_
    refine st6 _ ?_
    show Steps p.tables e below (T6.setTop (mkF m 38 #[.val (.ref r1), .val (.int (1 : Int32)), .val (.ref w_MIR), .val (.ref b2)] [])) _
    refine XS.aloadN X6.here hx rfl (hb hby d23_38) rfl rfl ?_
    exact retA X6 hx hret rfl rfl rfl (hb hby d23_39) hr
def Q_rm22_0 (Z : State) (r1 : Addr) (w_MIR : Addr) (w_x0 : Addr) (k_r1 : ClassId) (n0 : Nat) (h0 : Heap) (v : Option Value) (h : Heap) (L : List Loc) : Prop := ∃ b2_0 : Addr, ∃ kc2_0 : ClassId, v = (some (.ref b2_0)) ∧ Fr n0 L ∧ Keep h0 h [] ∧ h0.size ≤ b2_0 ∧ Exa Z h b2_0 sN4 ∧ Arv Z h b2_0 kc2_0 (.object sN1) (1 : Int32) [(.ref w_x0)] .null ∧ Ovr Z kc2_0 sN1
theorem rm22_0 (l : Launch) (Z : State) (a0 : Array Value) (hw : own_HW a0 Z) (r1 : Addr) (w_MIR : Addr) (w_x0 : Addr) (k_r1 : ClassId) (h0 : Heap) (n0 : Nat) (O0 : Old Z n0 h0) (P1 : Exa Z h0 r1 sN4) (P2 : Mir Z sN4 w_MIR) (P3 : Arv Z h0 r1 k_r1 (.object sN1) (10 : Int32) [(.ref w_x0), .null, .null, .null, .null, .null, .null, .null, .null, .null] .null) (P4 : Exa Z Z.heap w_x0 sN9) :
    own_Ct l Z yN20 jdk_65_method_119_code 2 (some (.array (.object sN1))) ({ frames := 2, cells := 1, slots := 1, locals := 75 } : Room) #[(.ref r1), (.int (1 : Int32))] h0 (Q_rm22_0 Z r1 w_MIR w_x0 k_r1 n0 h0) := by
  refine own_enter (own := sN20) rfl (plainFor_of_name pn_27) ?_
  intro p e s m below meth c s₁ X0 hx hby hml hown hnm hret hZ e0
  have N0 := Fr.nil n0
  obtain ⟨T1, X1, e1, st1⟩ := gcls X0 hx hZ hown (w177 hw) (w178 hw) (w94 hw) (w180 hw) (w179 hw) (w181 hw) e0 P1 P2 (g := (mkF m 3 #[.val (.ref r1), .val (.int (1 : Int32))] [(.ref r1), (.int (1 : Int32)), (.ref r1)])) rfl (by rw [hml]; rfl) rfl (hb hby d22_3) (by decide) (W := 2) (by show 2 * 0 + _ ≤ _; exact Nat.le_of_eq rfl) (by decide)
  obtain ⟨_, T2, L2, X2, hQ2, st2⟩ := own_cS X1 hx hZ hown (w183 hw) (w184 hw) (w175 hw) (w185 hw) (rm23_0 l Z a0 hw r1 w_MIR w_x0 k_r1 h0 n0 O0 P2 P3 P4) e1 (hb hby d22_6) hml pd_29 [(.ref r1), (.int (1 : Int32)), (.ref w_MIR)] [] (g := (mkF m 6 #[.val (.ref r1), .val (.int (1 : Int32))] [(.ref w_MIR), (.int (1 : Int32)), (.ref r1)]))
  obtain ⟨b2_0, kc2_0, rfl, N2q, K2, ge_b2_0, f2_0, f2_1, ov2_1⟩ := hQ2
  have g_b2_0 : n0 ≤ b2_0 := Nat.le_trans ((O0.1 ▸ O0.2.1) : n0 ≤ h0.size) ge_b2_0
  have sz_b2_0 : h0.size ≤ b2_0 := Nat.le_trans (Keep.refl h0 []).1 ge_b2_0
  have KK2 : Keep h0 T2.heap [] := (Keep.refl h0 []).trans K2 all0
  have O2 := O0.keep K2 all0
  have N2 := Fr.app N0 N2q
  refine ⟨(some (.ref b2_0)), _, _, _, _, X2, (fun h => nomatch h), ?_, by decide, by decide, fun fs hr => castTop (ef_22_RI m r1 (1 : Int32)) ?_⟩
  · show Q_rm22_0 Z r1 w_MIR w_x0 k_r1 n0 h0 _ T2.heap _
    exact ⟨b2_0, kc2_0, rfl, N2, KK2, sz_b2_0, f2_0, f2_1, ov2_1⟩
  · show Steps p.tables e below (s₁.setTop (mkF m 0 #[.val (.ref r1), .val (.int (1 : Int32))] [])) _
    refine XS.aloadN X0.here hx rfl (hb hby d22_0) rfl rfl ?_
    refine XS.iloadN X0.here hx rfl (hb hby d22_1) rfl ?_
    refine XS.aloadN X0.here hx rfl (hb hby d22_2) rfl rfl ?_
    refine st1 _ ?_
    refine st2 _ ?_
    exact retA X2 hx hret rfl rfl rfl (hb hby d22_9) hr
def Q_rm21_0 (Z : State) (r1 : Addr) (r2 : Addr) (w_MIR : Addr) (w_x0 : Addr) (k_r2 : ClassId) (n0 : Nat) (h0 : Heap) (v : Option Value) (h : Heap) (L : List Loc) : Prop := ∃ b3_0 : Addr, ∃ kc3_0 : ClassId, v = (some (.ref b3_0)) ∧ Fr n0 L ∧ Keep h0 h [] ∧ h0.size ≤ b3_0 ∧ Exa Z h b3_0 sN4 ∧ Arv Z h b3_0 kc3_0 (.object sN1) (1 : Int32) [(.ref w_x0)] .null ∧ Ovr Z kc3_0 sN1
theorem rm21_0 (l : Launch) (Z : State) (a0 : Array Value) (hw : own_HW a0 Z) (r1 : Addr) (r2 : Addr) (w_MIR : Addr) (w_x0 : Addr) (k_r2 : ClassId) (h0 : Heap) (n0 : Nat) (O0 : Old Z n0 h0) (P1 : Fld Z h0 r1 sN0 "elementData" sN4 (.ref r2)) (P2 : Fld Z h0 r1 sN0 "size" "I" (.int (1 : Int32))) (P3 : Exa Z h0 r2 sN4) (P4 : Mir Z sN4 w_MIR) (P5 : Arv Z h0 r2 k_r2 (.object sN1) (10 : Int32) [(.ref w_x0), .null, .null, .null, .null, .null, .null, .null, .null, .null] .null) (P6 : Exa Z Z.heap w_x0 sN9) :
    own_Ct l Z yN14 jdk_38_method_16_code 1 (some (.array (.object sN1))) ({ frames := 3, cells := 1, slots := 1, locals := 88 } : Room) #[(.ref r1)] h0 (Q_rm21_0 Z r1 r2 w_MIR w_x0 k_r2 n0 h0) := by
  refine own_enter (own := sN0) rfl (plainFor_of_name pn_3) ?_
  intro p e s m below meth c s₁ X0 hx hby hml hown hnm hret hZ e0
  have N0 := Fr.nil n0
  obtain ⟨T1, X1, e1, st1⟩ := getF X0 hx hZ hown (host := "") (Or.inl (w24 hw)) Via.refl e0 P1 (g := (mkF m 1 #[.val (.ref r1)] [(.ref r1)])) rfl rfl (hb hby d21_1)
  obtain ⟨T2, X2, e2, st2⟩ := getF X1 hx hZ hown (host := "") (Or.inl (w40 hw)) Via.refl e1 P2 (g := (mkF m 5 #[.val (.ref r1)] [(.ref r1), (.ref r2)])) rfl rfl (hb hby d21_5)
  obtain ⟨_, T3, L3, X3, hQ3, st3⟩ := own_cS X2 hx hZ hown (w173 hw) (w174 hw) (w175 hw) (w176 hw) (rm22_0 l Z a0 hw r2 w_MIR w_x0 k_r2 h0 n0 O0 P3 P4 P5 P6) e2 (hb hby d21_8) hml pd_31 [(.ref r2), (.int (1 : Int32))] [] (g := (mkF m 8 #[.val (.ref r1)] [(.int (1 : Int32)), (.ref r2)]))
  obtain ⟨b3_0, kc3_0, rfl, N3q, K3, ge_b3_0, f3_0, f3_1, ov3_1⟩ := hQ3
  have g_b3_0 : n0 ≤ b3_0 := Nat.le_trans ((O0.1 ▸ O0.2.1) : n0 ≤ h0.size) ge_b3_0
  have sz_b3_0 : h0.size ≤ b3_0 := Nat.le_trans (Keep.refl h0 []).1 ge_b3_0
  have KK3 : Keep h0 T3.heap [] := (Keep.refl h0 []).trans K3 all0
  have O3 := O0.keep K3 all0
  have N3 := Fr.app N0 N3q
  refine ⟨(some (.ref b3_0)), _, _, _, _, X3, (fun h => nomatch h), ?_, by decide, by decide, fun fs hr => castTop (ef_21_R m r1) ?_⟩
  · show Q_rm21_0 Z r1 r2 w_MIR w_x0 k_r2 n0 h0 _ T3.heap _
    exact ⟨b3_0, kc3_0, rfl, N3, KK3, sz_b3_0, f3_0, f3_1, ov3_1⟩
  · show Steps p.tables e below (s₁.setTop (mkF m 0 #[.val (.ref r1)] [])) _
    refine XS.aloadN X0.here hx rfl (hb hby d21_0) rfl rfl ?_
    refine st1 _ ?_
    refine XS.aloadN X1.here hx rfl (hb hby d21_4) rfl rfl ?_
    refine st2 _ ?_
    refine st3 _ ?_
    exact retA X3 hx hret rfl rfl rfl (hb hby d21_11) hr
theorem rm3_0 (l : Launch) (Z : State) (a0 : Array Value) (hw : own_HW a0 Z) (r1 : Addr) (h0 : Heap) (n0 : Nat) (O0 : Old Z n0 h0)  :
    own_Ct l Z yN35 jdk_22_method_1_code 1 none ({ frames := 1, cells := 0, slots := 0, locals := 12 } : Room) #[(.ref r1)] h0 (own_QP none n0 h0) := by
  refine own_enter (own := sN29) rfl (plainFor_of_name pn_34) ?_
  intro p e s m below meth c s₁ X0 hx hby hml hown hnm hret hZ e0
  have N0 := Fr.nil n0
  obtain ⟨T1, X1, e1, st1⟩ := initO X0 hx hZ hown (w18 hw) (w19 hw) (w20 hw) e0 (g := (mkF m 1 #[.val (.ref r1)] [(.ref r1)])) rfl (by rw [hml]; rfl) rfl (hb hby d3_1) (by decide) (W := 0) (by show 2 * 0 + _ ≤ _; exact Nat.le_of_eq rfl) (by decide)
  refine ⟨none, _, _, _, _, X1, (fun _ => rfl), ?_, by decide, by decide, fun fs hr => castTop (ef_3_R m r1) ?_⟩
  · show own_QP none n0 h0 _ T1.heap _
    rw [e1]
    exact ⟨rfl, N0, rfl⟩
  · show Steps p.tables e below (s₁.setTop (mkF m 0 #[.val (.ref r1)] [])) _
    refine XS.aloadN X0.here hx rfl (hb hby d3_0) rfl rfl ?_
    refine st1 _ ?_
    exact X1.returnOut hx hret (hb hby d3_4) hr
theorem rm29_0 (l : Launch) (Z : State) (a0 : Array Value) (hw : own_HW a0 Z) (r1 : Addr) (h0 : Heap) (n0 : Nat) (O0 : Old Z n0 h0)  :
    own_Ct l Z yN50 jdk_47_method_1_code 1 none ({ frames := 2, cells := 0, slots := 0, locals := 24 } : Room) #[(.ref r1)] h0 (own_QP none n0 h0) := by
  refine own_enter (own := sN55) rfl (plainFor_of_name pn_37) ?_
  intro p e s m below meth c s₁ X0 hx hby hml hown hnm hret hZ e0
  have N0 := Fr.nil n0
  obtain ⟨_, T1, L1, X1, hQ1, st1⟩ := own_cI X0 hx hZ hown rfl (w219 hw) (w13 hw) (w16 hw) (w17 hw) (rm3_0 l Z a0 hw r1 h0 n0 O0 ) e0 (hb hby d29_1) hml pd_36 [] [] (g := (mkF m 1 #[.val (.ref r1)] [(.ref r1)]))
  obtain ⟨rfl, N1q, e1⟩ := hQ1
  have N1 := Fr.app N0 N1q
  refine ⟨none, _, _, _, _, X1, (fun _ => rfl), ?_, by decide, by decide, fun fs hr => castTop (ef_29_R m r1) ?_⟩
  · show own_QP none n0 h0 _ T1.heap _
    rw [e1]
    exact ⟨rfl, N1, rfl⟩
  · show Steps p.tables e below (s₁.setTop (mkF m 0 #[.val (.ref r1)] [])) _
    refine XS.aloadN X0.here hx rfl (hb hby d29_0) rfl rfl ?_
    refine st1 _ ?_
    exact X1.returnOut hx hret (hb hby d29_4) hr
theorem rm28_0 (l : Launch) (Z : State) (a0 : Array Value) (hw : own_HW a0 Z) (r1 : Addr) (h0 : Heap) (n0 : Nat) (O0 : Old Z n0 h0)  :
    own_Ct l Z yN39 jdk_46_method_1_code 1 none ({ frames := 3, cells := 0, slots := 0, locals := 36 } : Room) #[(.ref r1)] h0 (own_QP none n0 h0) := by
  refine own_enter (own := sN21) rfl (plainFor_of_name pn_19) ?_
  intro p e s m below meth c s₁ X0 hx hby hml hown hnm hret hZ e0
  have N0 := Fr.nil n0
  obtain ⟨_, T1, L1, X1, hQ1, st1⟩ := own_cI X0 hx hZ hown rfl (w213 hw) (w214 hw) (w217 hw) (w218 hw) (rm29_0 l Z a0 hw r1 h0 n0 O0 ) e0 (hb hby d28_1) hml pd_36 [] [] (g := (mkF m 1 #[.val (.ref r1)] [(.ref r1)]))
  obtain ⟨rfl, N1q, e1⟩ := hQ1
  have N1 := Fr.app N0 N1q
  refine ⟨none, _, _, _, _, X1, (fun _ => rfl), ?_, by decide, by decide, fun fs hr => castTop (ef_28_R m r1) ?_⟩
  · show own_QP none n0 h0 _ T1.heap _
    rw [e1]
    exact ⟨rfl, N1, rfl⟩
  · show Steps p.tables e below (s₁.setTop (mkF m 0 #[.val (.ref r1)] [])) _
    refine XS.aloadN X0.here hx rfl (hb hby d28_0) rfl rfl ?_
    refine st1 _ ?_
    exact X1.returnOut hx hret (hb hby d28_4) hr
theorem rm12_1 (l : Launch) (Z : State) (a0 : Array Value) (hw : own_HW a0 Z) (w_x0 : Addr) (h0 : Heap) (n0 : Nat) (O0 : Old Z n0 h0)  :
    own_Ct l Z yN5 jdk_31_method_10_code 1 (some (.object sN1)) ({ frames := 0, cells := 0, slots := 0, locals := 0 } : Room) #[(.ref w_x0)] h0 (own_QP (some (.ref w_x0)) n0 h0) := by
  refine own_enter (own := sN25) rfl (plainFor_of_name pn_0) ?_
  intro p e s m below meth c s₁ X0 hx hby hml hown hnm hret hZ e0
  have N0 := Fr.nil n0
  refine ⟨(some (.ref w_x0)), _, _, _, _, X0, (fun h => nomatch h), ?_, by decide, by decide, fun fs hr => castTop (ef_12_R m w_x0) ?_⟩
  · show own_QP (some (.ref w_x0)) n0 h0 _ s₁.heap _
    rw [e0]
    exact ⟨rfl, N0, rfl⟩
  · show Steps p.tables e below (s₁.setTop (mkF m 0 #[.val (.ref w_x0)] [])) _
    refine XS.aloadN X0.here hx rfl (hb hby d12_0) rfl rfl ?_
    refine XS.ifnonnullYes X0.here hx rfl (pc0 := 1) (pc' := 12) rfl (hb hby d12_1) rfl (by decide) (by decide) ?_
    refine XS.aloadN X0.here hx rfl (hb hby d12_12) rfl rfl ?_
    exact retA X0 hx hret rfl rfl rfl (hb hby d12_13) hr
def Q_rm46_0 (Z : State) (r1 : Addr) (w_x0 : Addr) (w_NIL : Addr) (n0 : Nat) (h0 : Heap) (v : Option Value) (h : Heap) (L : List Loc) : Prop := v = none ∧ Fr n0 L ∧ Keep h0 h [r1] ∧ Fld Z h r1 sN6 "e0" sN11 (.ref w_x0) ∧ Fld Z h r1 sN6 "e1" sN11 (.ref w_NIL)
theorem rm46_0 (l : Launch) (Z : State) (a0 : Array Value) (hw : own_HW a0 Z) (r1 : Addr) (w_x0 : Addr) (w_NIL : Addr) (h0 : Heap) (n0 : Nat) (O0 : Old Z n0 h0) (P1 : Exa Z h0 r1 sN6) (P2 : Fld Z h0 r1 sN6 "e0" sN11 .null) (P3 : Fld Z h0 r1 sN6 "e1" sN11 .null) (P4 : n0 ≤ r1) (P5 : Sta Z Z.heap sN14 "EMPTY" sN11 (.ref w_NIL)) :
    own_Ct l Z yN55 jdk_44_method_1_code 2 none ({ frames := 4, cells := 0, slots := 0, locals := 48 } : Room) #[(.ref r1), (.ref w_x0)] h0 (Q_rm46_0 Z r1 w_x0 w_NIL n0 h0) := by
  refine own_enter (own := sN6) rfl (plainFor_of_name pn_40) ?_
  intro p e s m below meth c s₁ X0 hx hby hml hown hnm hret hZ e0
  have N0 := Fr.nil n0
  obtain ⟨_, T1, L1, X1, hQ1, st1⟩ := own_cI X0 hx hZ hown rfl (w343 hw) (w209 hw) (w134 hw) (w212 hw) (rm28_0 l Z a0 hw r1 h0 n0 O0 ) e0 (hb hby d46_1) hml pd_36 [] [] (g := (mkF m 1 #[.val (.ref r1), .val (.ref w_x0)] [(.ref r1)]))
  obtain ⟨rfl, N1q, e1⟩ := hQ1
  have N1 := Fr.app N0 N1q
  obtain ⟨_, T2, L2, X2, hQ2, st2⟩ := own_cS X1 hx hZ hown (w347 hw) (w75 hw) (w76 hw) (w77 hw) (rm12_1 l Z a0 hw w_x0 h0 n0 O0 ) e1 (hb hby d46_6) hml pd_2 [(.ref w_x0)] [(.ref r1)] (g := (mkF m 6 #[.val (.ref r1), .val (.ref w_x0)] [(.ref w_x0), (.ref r1)]))
  obtain ⟨rfl, N2q, e2⟩ := hQ2
  have N2 := Fr.app N1 N2q
  obtain ⟨T3, h3, X3, e3, W3, st3⟩ := putF X2 hx hZ hown (host := "") (Or.inl (w348 hw)) Via.refl e2 P2 P1 (Or.inr ⟨(w349 hw), rfl, hnm⟩) (w337 hw) (ty := (.object sN1)) (by decide) rfl rfl (g := (mkF m 9 #[.val (.ref r1), .val (.ref w_x0)] [(.ref w_x0), (.ref r1)])) rfl rfl (hb hby d46_9)
  have Fw3 := P2.same W3
  have KK3 : Keep h0 h3 [r1] := (Keep.refl h0 [r1]).wr W3 (Or.inl (List.mem_of_getElem? (i := 0) rfl))
  have O3 := O0.wr W3 P4
  have N3 := Fr.snoc X3 N2 P4
  obtain ⟨T4, X4, e4, st4⟩ := getS2 X3 hx hZ hown (Or.inr (w350 hw)) Via.refl e3 (P5.ext O3.2) (g := (mkF m 13 #[.val (.ref r1), .val (.ref w_x0)] [(.ref r1)])) rfl (hb hby d46_13)
  have fc5 := (P3.other W3 (Or.inr (slot_ne (Or.inr (w352 hw)) (Or.inr (w349 hw)) (by decide) (t := (.object sN1)) (t' := (.object sN1)) (by decide) (by decide))))
  obtain ⟨T6, h6, X6, e6, W6, st6⟩ := putF X4 hx hZ hown (host := "") (Or.inl (w351 hw)) Via.refl e4 fc5 (P1.wr W3) (Or.inr ⟨(w352 hw), rfl, hnm⟩) (w337 hw) (ty := (.object sN1)) (by decide) rfl rfl (g := (mkF m 16 #[.val (.ref r1), .val (.ref w_x0)] [(.ref w_NIL), (.ref r1)])) rfl rfl (hb hby d46_16)
  have Fw6 := fc5.same W6
  have KK6 : Keep h0 h6 [r1] := KK3.wr W6 (Or.inl (List.mem_of_getElem? (i := 0) rfl))
  have O6 := O3.wr W6 P4
  have N6 := Fr.snoc X6 N3 P4
  have fc7 := (Fw3.other W6 (Or.inr (slot_ne (Or.inr (w349 hw)) (Or.inr (w352 hw)) (by decide) (t := (.object sN1)) (t' := (.object sN1)) (by decide) (by decide))))
  refine ⟨none, _, _, _, _, X6, (fun _ => rfl), ?_, by decide, by decide, fun fs hr => castTop (ef_46_RR m r1 w_x0) ?_⟩
  · show Q_rm46_0 Z r1 w_x0 w_NIL n0 h0 _ T6.heap _
    rw [e6]
    exact ⟨rfl, N6, KK6, fc7, Fw6⟩
  · show Steps p.tables e below (s₁.setTop (mkF m 0 #[.val (.ref r1), .val (.ref w_x0)] [])) _
    refine XS.aloadN X0.here hx rfl (hb hby d46_0) rfl rfl ?_
    refine st1 _ ?_
    refine XS.aloadN X1.here hx rfl (hb hby d46_4) rfl rfl ?_
    refine XS.aloadN X1.here hx rfl (hb hby d46_5) rfl rfl ?_
    refine st2 _ ?_
    refine st3 _ ?_
    refine XS.aloadN X3.here hx rfl (hb hby d46_12) rfl rfl ?_
    refine st4 _ ?_
    show Steps p.tables e below (T4.setTop (mkF m 16 #[.val (.ref r1), .val (.ref w_x0)] [(.ref w_NIL), (.ref r1)])) _
    refine st6 _ ?_
    exact X6.returnOut hx hret (hb hby d46_19) hr
def Q_rm25_0 (Z : State) (r1 : Addr) (w_x0 : Addr) (k_r1 : ClassId) (w_NIL : Addr) (n0 : Nat) (h0 : Heap) (v : Option Value) (h : Heap) (L : List Loc) : Prop := ∃ b2 : Addr, v = (some (.ref b2)) ∧ Fr n0 L ∧ Keep h0 h [] ∧ h0.size ≤ b2 ∧ Exa Z h b2 sN6 ∧ Fld Z h b2 sN6 "e0" sN11 (.ref w_x0) ∧ Fld Z h b2 sN6 "e1" sN11 (.ref w_NIL)
theorem rm25_0 (l : Launch) (Z : State) (a0 : Array Value) (hw : own_HW a0 Z) (r1 : Addr) (w_x0 : Addr) (k_r1 : ClassId) (w_NIL : Addr) (h0 : Heap) (n0 : Nat) (O0 : Old Z n0 h0) (P1 : Ovr Z k_r1 sN1) (P2 : Arv Z h0 r1 k_r1 (.object sN1) (1 : Int32) [(.ref w_x0)] .null) (P3 : Sta Z Z.heap sN14 "EMPTY" sN11 (.ref w_NIL)) :
    own_Ct l Z yN22 jdk_40_method_47_code 2 (some (.object sN3)) ({ frames := 5, cells := 1, slots := 2, locals := 62 } : Room) #[(.ref r1)] h0 (Q_rm25_0 Z r1 w_x0 k_r1 w_NIL n0 h0) := by
  refine own_enter (own := sN3) rfl (plainFor_of_name pn_6) ?_
  intro p e s m below meth c s₁ X0 hx hby hml hown hnm hret hZ e0
  have N0 := Fr.nil n0
  obtain ⟨cl1, Ar1, -, Sr1, Nr1, -, -⟩ := id P2
  obtain ⟨T2, h2, X2, e2, E2, A2, D2, -, st2⟩ := newO X0 hx hZ hown (w336 hw) (w337 hw) (w338 hw) e0 (g := (mkF m 34 #[.val (.ref r1), .unset] [])) rfl (hb hby d25_34) (by decide) (by decide)
  obtain ⟨b2, gq2⟩ : ∃ z, z = h0.size := ⟨_, rfl⟩
  rw [← gq2] at A2 D2 st2
  have g_b2 : n0 ≤ b2 := Nat.le_trans ((O0.1 ▸ O0.2.1) : n0 ≤ h0.size) (Nat.le_of_eq gq2.symm)
  have sz_b2 : h0.size ≤ b2 := Nat.le_trans (Keep.refl h0 []).1 (Nat.le_of_eq gq2.symm)
  have KK2 : Keep h0 h2 [] := (Keep.refl h0 []).ext E2
  have O2 := O0.ext E2
  have F_e0_b2 : Fld Z h2 b2 sN6 "e0" sN11 .null := D2 (Or.inr (w349 hw)) (ty := (.object sN1)) (by decide)
  have F_e1_b2 : Fld Z h2 b2 sN6 "e1" sN11 .null := D2 (Or.inr (w352 hw)) (ty := (.object sN1)) (by decide)
  obtain ⟨cl3, Ar3, -, Sr3, -, Hr3, -⟩ := id (P2.ext E2)
  have hin3 : ¬ ((0 : Int32) < 0 ∨ cl3.slots.size ≤ ((0 : Int32) : Int32).toNatClampNeg) := inb_of Sr3 ⟨by decide, by decide⟩
  have hat3 : cl3.slots[((0 : Int32) : Int32).toNatClampNeg]? = some (.ref w_x0) := Has.at Hr3 hin3 rfl
  obtain ⟨_, T4, L4, X4, hQ4, st4⟩ := own_cI X2 hx hZ hown rfl (w339 hw) (w340 hw) (w338 hw) (w342 hw) (rm46_0 l Z a0 hw b2 w_x0 w_NIL h2 n0 O2 A2 F_e0_b2 F_e1_b2 g_b2 P3) e2 (hb hby d25_41) hml pd_42 [(.ref w_x0)] [(.ref b2)] (g := (mkF m 41 #[.val (.ref r1), .unset] [(.ref w_x0), (.ref b2), (.ref b2)]))
  obtain ⟨rfl, N4q, K4, f4_0, f4_1⟩ := hQ4
  have KK4 : Keep h0 T4.heap [] := KK2.trans K4 (allS (Or.inr sz_b2) all0)
  have O4 := O2.keep K4 (allS g_b2 all0)
  have N4 := Fr.app N0 N4q
  refine ⟨(some (.ref b2)), _, _, _, _, X4, (fun h => nomatch h), ?_, by decide, by decide, fun fs hr => castTop (ef_25_R m r1) ?_⟩
  · show Q_rm25_0 Z r1 w_x0 k_r1 w_NIL n0 h0 _ T4.heap _
    exact ⟨b2, rfl, N4, KK4, sz_b2, (A2.keep K4), f4_0, f4_1⟩
  · show Steps p.tables e below (s₁.setTop (mkF m 0 #[.val (.ref r1), .unset] [])) _
    refine XS.aloadN X0.here hx rfl (hb hby d25_0) rfl rfl ?_
    refine X0.arraylength hx (by rw [e0]; exact Ar1.1) (State.isArrayOf_alike hZ.alike Ar1.2.1) (g := (mkF m 1 #[.val (.ref r1), .unset] [(.ref r1)])) rfl rfl (hb hby d25_1) _ ?_
    rw [len_of Sr1 Nr1]
    refine XS.tswIn X0.here hx rfl (pc0 := 2) (pc' := 34) rfl (hb hby d25_2) rfl (by decide) (o := 32) (by decide) (by decide) (by decide) ?_
    refine st2 _ ?_
    refine XS.dup X2.here hx rfl (hb hby d25_37) rfl rfl ?_
    refine XS.aloadN X2.here hx rfl (hb hby d25_38) rfl rfl ?_
    refine XS.iconst X2.here hx rfl (hb hby d25_39) ?_
    refine X2.aaload hx (j := (0 : Int32)) (v := (.ref w_x0)) (by rw [e2]; exact Ar3.1) (State.isArrayOf_alike hZ.alike Ar3.2.1) rfl Ar3.2.2 hin3 hat3 (g := (mkF m 40 #[.val (.ref r1), .unset] [(.int (0 : Int32)), (.ref r1), (.ref b2), (.ref b2)])) rfl rfl (hb hby d25_40) _ ?_
    show Steps p.tables e below (T2.setTop (mkF m 41 #[.val (.ref r1), .unset] [(.ref w_x0), (.ref b2), (.ref b2)])) _
    refine st4 _ ?_
    exact retA X4 hx hret rfl rfl rfl (hb hby d25_44) hr
def Q_rm14_1 (Z : State) (r1 : Addr) (r2 : Addr) (w_MIR : Addr) (w_x0 : Addr) (k_r2 : ClassId) (w_NIL : Addr) (n0 : Nat) (h0 : Heap) (v : Option Value) (h : Heap) (L : List Loc) : Prop := ∃ b5_0 : Addr, v = (some (.ref b5_0)) ∧ Fr n0 L ∧ Keep h0 h [] ∧ h0.size ≤ b5_0 ∧ Exa Z h b5_0 sN6 ∧ Fld Z h b5_0 sN6 "e0" sN11 (.ref w_x0) ∧ Fld Z h b5_0 sN6 "e1" sN11 (.ref w_NIL)
theorem rm14_1 (l : Launch) (Z : State) (a0 : Array Value) (hw : own_HW a0 Z) (r1 : Addr) (r2 : Addr) (w_MIR : Addr) (w_x0 : Addr) (k_r2 : ClassId) (w_NIL : Addr) (h0 : Heap) (n0 : Nat) (O0 : Old Z n0 h0) (P1 : Exa Z h0 r1 sN0) (P2 : Fld Z h0 r1 sN0 "size" "I" (.int (1 : Int32))) (P3 : Fld Z h0 r1 sN0 "elementData" sN4 (.ref r2)) (P4 : Exa Z h0 r2 sN4) (P5 : Mir Z sN4 w_MIR) (P6 : Arv Z h0 r2 k_r2 (.object sN1) (10 : Int32) [(.ref w_x0), .null, .null, .null, .null, .null, .null, .null, .null, .null] .null) (P7 : Exa Z Z.heap w_x0 sN9) (P8 : Sta Z Z.heap sN14 "EMPTY" sN11 (.ref w_NIL)) :
    own_Ct l Z yN12 jdk_56_method_3_code 2 (some (.object sN3)) ({ frames := 6, cells := 2, slots := 3, locals := 100 } : Room) #[(.ref r1)] h0 (Q_rm14_1 Z r1 r2 w_MIR w_x0 k_r2 w_NIL n0 h0) := by
  refine own_enter (own := sN14) rfl (plainFor_of_name pn_9) ?_
  intro p e s m below meth c s₁ X0 hx hby hml hown hnm hret hZ e0
  have N0 := Fr.nil n0
  obtain ⟨T1, X1, e1, st1⟩ := instNo X0 hx hZ hown (w90 hw) e0 P1 (own_nsno (w91 hw) (w337 hw) (NS.step (w91 hw) (NS.step (w92 hw) (NS.step (w93 hw) (own_nsroot (w94 hw) (w337 hw) (by decide)) (by decide)) (by decide)) (by decide)) (by decide)) (g := (mkF m 1 #[.val (.ref r1), .unset] [(.ref r1)])) rfl rfl (hb hby d14_1)
  obtain ⟨T2, X2, e2, st2⟩ := instNo X1 hx hZ hown (w95 hw) e1 P1 (own_nsno (w91 hw) (w203 hw) (NS.step (w91 hw) (NS.step (w92 hw) (NS.step (w93 hw) (own_nsroot (w94 hw) (w203 hw) (by decide)) (by decide)) (by decide)) (by decide)) (by decide)) (g := (mkF m 8 #[.val (.ref r1), .unset] [(.ref r1)])) rfl rfl (hb hby d14_8)
  obtain ⟨_, T3, L3, X3, hQ3, st3⟩ := own_cF X2 hx hZ hown (w96 hw) (w97 hw) (w98 hw) (w99 hw) (w100 hw) (w101 hw) (w102 hw) (w103 hw) (w2 hw) (w104 hw) P1 (rm15_1 l Z a0 hw r1 h0 n0 O0 P2) e2 (hb hby d14_32) hml pd_5 [] [] (g := (mkF m 32 #[.val (.ref r1), .unset] [(.ref r1)]))
  obtain ⟨rfl, N3q, e3⟩ := hQ3
  have N3 := Fr.app N0 N3q
  obtain ⟨_, T4, L4, X4, hQ4, st4⟩ := own_cF X3 hx hZ hown (w165 hw) (w166 hw) (w167 hw) (w168 hw) (w169 hw) (w170 hw) (w171 hw) (w103 hw) (w2 hw) (w172 hw) P1 (rm21_0 l Z a0 hw r1 r2 w_MIR w_x0 k_r2 h0 n0 O0 P3 P2 P4 P5 P6 P7) e3 (hb hby d14_45) hml pd_33 [] [] (g := (mkF m 45 #[.val (.ref r1), .unset] [(.ref r1)]))
  obtain ⟨b4_0, kc4_0, rfl, N4q, K4, ge_b4_0, f4_0, f4_1, ov4_1⟩ := hQ4
  have g_b4_0 : n0 ≤ b4_0 := Nat.le_trans ((O0.1 ▸ O0.2.1) : n0 ≤ h0.size) ge_b4_0
  have sz_b4_0 : h0.size ≤ b4_0 := Nat.le_trans (Keep.refl h0 []).1 ge_b4_0
  have KK4 : Keep h0 T4.heap [] := (Keep.refl h0 []).trans K4 all0
  have O4 := O0.keep K4 all0
  have N4 := Fr.app N3 N4q
  obtain ⟨_, T5, L5, X5, hQ5, st5⟩ := own_cS X4 hx hZ hown (w195 hw) (w196 hw) (w84 hw) (w197 hw) (rm25_0 l Z a0 hw b4_0 w_x0 kc4_0 w_NIL T4.heap n0 O4 ov4_1 f4_1 P8) rfl (hb hby d14_50) hml pd_44 [(.ref b4_0)] [] (g := (mkF m 50 #[.val (.ref r1), .unset] [(.ref b4_0)]))
  obtain ⟨b5_0, rfl, N5q, K5, ge_b5_0, f5_0, f5_1, f5_2⟩ := hQ5
  have g_b5_0 : n0 ≤ b5_0 := Nat.le_trans ((O4.1 ▸ O4.2.1) : n0 ≤ T4.heap.size) ge_b5_0
  have sz_b5_0 : h0.size ≤ b5_0 := Nat.le_trans KK4.1 ge_b5_0
  have KK5 : Keep h0 T5.heap [] := KK4.trans K5 all0
  have O5 := O4.keep K5 all0
  have N5 := Fr.app N4 N5q
  refine ⟨(some (.ref b5_0)), _, _, _, _, X5, (fun h => nomatch h), ?_, by decide, by decide, fun fs hr => castTop (ef_14_R m r1) ?_⟩
  · show Q_rm14_1 Z r1 r2 w_MIR w_x0 k_r2 w_NIL n0 h0 _ T5.heap _
    exact ⟨b5_0, rfl, N5, KK5, sz_b5_0, f5_0, f5_1, f5_2⟩
  · show Steps p.tables e below (s₁.setTop (mkF m 0 #[.val (.ref r1), .unset] [])) _
    refine XS.aloadN X0.here hx rfl (hb hby d14_0) rfl rfl ?_
    refine st1 _ ?_
    refine XS.ifNo X1.here hx rfl (hb hby d14_4) rfl (by decide) ?_
    refine XS.aloadN X1.here hx rfl (hb hby d14_7) rfl rfl ?_
    refine st2 _ ?_
    refine XS.ifYes X2.here hx rfl (pc0 := 11) (pc' := 31) rfl (hb hby d14_11) rfl (by decide) (by decide) (by decide) ?_
    refine XS.aloadN X2.here hx rfl (hb hby d14_31) rfl rfl ?_
    refine st3 _ ?_
    show Steps p.tables e below (T3.setTop (mkF m 37 #[.val (.ref r1), .unset] [(.int (0 : Int32))])) _
    refine XS.ifYes X3.here hx rfl (pc0 := 37) (pc' := 44) rfl (hb hby d14_37) rfl (by decide) (by decide) (by decide) ?_
    refine XS.aloadN X3.here hx rfl (hb hby d14_44) rfl rfl ?_
    refine st4 _ ?_
    refine st5 _ ?_
    exact retA X5 hx hret rfl rfl rfl (hb hby d14_53) hr
def Q_rm13_1 (Z : State) (r1 : Addr) (r2 : Addr) (w_MIR : Addr) (w_x0 : Addr) (k_r2 : ClassId) (w_NIL : Addr) (n0 : Nat) (h0 : Heap) (v : Option Value) (h : Heap) (L : List Loc) : Prop := ∃ b1_0 : Addr, v = (some (.ref b1_0)) ∧ Fr n0 L ∧ Keep h0 h [] ∧ h0.size ≤ b1_0 ∧ Exa Z h b1_0 sN6 ∧ Fld Z h b1_0 sN6 "e0" sN11 (.ref w_x0) ∧ Fld Z h b1_0 sN6 "e1" sN11 (.ref w_NIL)
theorem rm13_1 (l : Launch) (Z : State) (a0 : Array Value) (hw : own_HW a0 Z) (r1 : Addr) (r2 : Addr) (w_MIR : Addr) (w_x0 : Addr) (k_r2 : ClassId) (w_NIL : Addr) (h0 : Heap) (n0 : Nat) (O0 : Old Z n0 h0) (P1 : Exa Z h0 r1 sN0) (P2 : Fld Z h0 r1 sN0 "size" "I" (.int (1 : Int32))) (P3 : Fld Z h0 r1 sN0 "elementData" sN4 (.ref r2)) (P4 : Exa Z h0 r2 sN4) (P5 : Mir Z sN4 w_MIR) (P6 : Arv Z h0 r2 k_r2 (.object sN1) (10 : Int32) [(.ref w_x0), .null, .null, .null, .null, .null, .null, .null, .null, .null] .null) (P7 : Exa Z Z.heap w_x0 sN9) (P8 : Sta Z Z.heap sN14 "EMPTY" sN11 (.ref w_NIL)) :
    own_Ct l Z yN11 jdk_40_method_48_code 1 (some (.object sN3)) ({ frames := 7, cells := 2, slots := 3, locals := 113 } : Room) #[(.ref r1)] h0 (Q_rm13_1 Z r1 r2 w_MIR w_x0 k_r2 w_NIL n0 h0) := by
  refine own_enter (own := sN3) rfl (plainFor_of_name pn_6) ?_
  intro p e s m below meth c s₁ X0 hx hby hml hown hnm hret hZ e0
  have N0 := Fr.nil n0
  obtain ⟨_, T1, L1, X1, hQ1, st1⟩ := own_cS X0 hx hZ hown (w86 hw) (w87 hw) (w88 hw) (w89 hw) (rm14_1 l Z a0 hw r1 r2 w_MIR w_x0 k_r2 w_NIL h0 n0 O0 P1 P2 P3 P4 P5 P6 P7 P8) e0 (hb hby d13_1) hml pd_11 [(.ref r1)] [] (g := (mkF m 1 #[.val (.ref r1)] [(.ref r1)]))
  obtain ⟨b1_0, rfl, N1q, K1, ge_b1_0, f1_0, f1_1, f1_2⟩ := hQ1
  have g_b1_0 : n0 ≤ b1_0 := Nat.le_trans ((O0.1 ▸ O0.2.1) : n0 ≤ h0.size) ge_b1_0
  have sz_b1_0 : h0.size ≤ b1_0 := Nat.le_trans (Keep.refl h0 []).1 ge_b1_0
  have KK1 : Keep h0 T1.heap [] := (Keep.refl h0 []).trans K1 all0
  have O1 := O0.keep K1 all0
  have N1 := Fr.app N0 N1q
  refine ⟨(some (.ref b1_0)), _, _, _, _, X1, (fun h => nomatch h), ?_, by decide, by decide, fun fs hr => castTop (ef_13_R m r1) ?_⟩
  · show Q_rm13_1 Z r1 r2 w_MIR w_x0 k_r2 w_NIL n0 h0 _ T1.heap _
    exact ⟨b1_0, rfl, N1, KK1, sz_b1_0, f1_0, f1_1, f1_2⟩
  · show Steps p.tables e below (s₁.setTop (mkF m 0 #[.val (.ref r1)] [])) _
    refine XS.aloadN X0.here hx rfl (hb hby d13_0) rfl rfl ?_
    refine st1 _ ?_
    exact retA X1 hx hret rfl rfl rfl (hb hby d13_4) hr
theorem rm47_0 (l : Launch) (Z : State) (a0 : Array Value) (hw : own_HW a0 Z) (r1 : Addr) (w_NIL : Addr) (h0 : Heap) (n0 : Nat) (O0 : Old Z n0 h0) (P1 : Fld Z h0 r1 sN6 "e1" sN11 (.ref w_NIL)) (P2 : Sta Z Z.heap sN14 "EMPTY" sN11 (.ref w_NIL)) :
    own_Ct l Z yN28 jdk_44_method_3_code 1 (some .int) ({ frames := 0, cells := 0, slots := 0, locals := 0 } : Room) #[(.ref r1)] h0 (own_QP (some (.int (1 : Int32))) n0 h0) := by
  refine own_enter (own := sN6) rfl (plainFor_of_name pn_40) ?_
  intro p e s m below meth c s₁ X0 hx hby hml hown hnm hret hZ e0
  have N0 := Fr.nil n0
  obtain ⟨T1, X1, e1, st1⟩ := getF X0 hx hZ hown (host := "") (Or.inl (w351 hw)) Via.refl e0 P1 (g := (mkF m 1 #[.val (.ref r1)] [(.ref r1)])) rfl rfl (hb hby d47_1)
  obtain ⟨T2, X2, e2, st2⟩ := getS2 X1 hx hZ hown (Or.inr (w350 hw)) Via.refl e1 (P2.ext O0.2) (g := (mkF m 4 #[.val (.ref r1)] [(.ref w_NIL)])) rfl (hb hby d47_4)
  refine ⟨(some (.int (1 : Int32))), _, _, _, _, X2, (fun h => nomatch h), ?_, by decide, by decide, fun fs hr => castTop (ef_47_R m r1) ?_⟩
  · show own_QP (some (.int (1 : Int32))) n0 h0 _ T2.heap _
    rw [e2]
    exact ⟨rfl, N0, rfl⟩
  · show Steps p.tables e below (s₁.setTop (mkF m 0 #[.val (.ref r1)] [])) _
    refine XS.aloadN X0.here hx rfl (hb hby d47_0) rfl rfl ?_
    refine st1 _ ?_
    refine st2 _ ?_
    refine Jvm.RoadKit.acmp (g := (mkF m 7 #[.val (.ref r1)] [(.ref w_NIL), (.ref w_NIL)])) X2 hx rfl rfl rfl (pc0 := 7) (pc' := 14) (same := true) rfl (hb hby d47_7) rfl (decide_eq_true rfl) (by decide) (by decide) ?_
    refine XS.iconst X2.here hx rfl (hb hby d47_14) ?_
    exact retI X2 hx hret (hb hby d47_15) hr
def Q_rm19_1 (Z : State) (r1 : Addr) (r2 : Addr) (n0 : Nat) (h0 : Heap) (v : Option Value) (h : Heap) (L : List Loc) : Prop := v = none ∧ Fr n0 L ∧ Keep h0 h [r1] ∧ Fld Z h r1 sN5 "list" sN10 (.ref r2) ∧ Fld Z h r1 sN5 "size" "I" (.int (1 : Int32)) ∧ Fld Z h r1 sN5 "cursor" "I" (.int (0 : Int32)) ∧ Fld Z h r1 sN5 sN19 "Z" (.int (0 : Int32))
theorem rm19_1 (l : Launch) (Z : State) (a0 : Array Value) (hw : own_HW a0 Z) (r1 : Addr) (r2 : Addr) (h0 : Heap) (n0 : Nat) (O0 : Old Z n0 h0) (P1 : Exa Z h0 r1 sN5) (P2 : Fld Z h0 r1 sN5 "list" sN10 .null) (P3 : Fld Z h0 r1 sN5 "size" "I" (.int (0 : Int32))) (P4 : Fld Z h0 r1 sN5 "cursor" "I" (.int (0 : Int32))) (P5 : Fld Z h0 r1 sN5 sN19 "Z" (.int (0 : Int32))) (P6 : n0 ≤ r1) :
    own_Ct l Z yN19 jdk_53_method_1_code 3 none ({ frames := 1, cells := 0, slots := 0, locals := 12 } : Room) #[(.ref r1), (.ref r2), (.int (1 : Int32))] h0 (Q_rm19_1 Z r1 r2 n0 h0) := by
  refine own_enter (own := sN5) rfl (plainFor_of_name pn_16) ?_
  intro p e s m below meth c s₁ X0 hx hby hml hown hnm hret hZ e0
  have N0 := Fr.nil n0
  obtain ⟨T1, X1, e1, st1⟩ := initO X0 hx hZ hown (w147 hw) (w19 hw) (w20 hw) e0 (g := (mkF m 1 #[.val (.ref r1), .val (.ref r2), .val (.int (1 : Int32))] [(.ref r1)])) rfl (by rw [hml]; rfl) rfl (hb hby d19_1) (by decide) (W := 0) (by show 2 * 0 + _ ≤ _; exact Nat.le_of_eq rfl) (by decide)
  obtain ⟨T2, h2, X2, e2, W2, st2⟩ := putF X1 hx hZ hown (host := "") (Or.inl (w148 hw)) Via.refl e1 P2 P1 (Or.inr ⟨(w149 hw), rfl, hnm⟩) (w137 hw) (ty := (.object sN3)) (by decide) rfl rfl (g := (mkF m 6 #[.val (.ref r1), .val (.ref r2), .val (.int (1 : Int32))] [(.ref r2), (.ref r1)])) rfl rfl (hb hby d19_6)
  have Fw2 := P2.same W2
  have KK2 : Keep h0 h2 [r1] := (Keep.refl h0 [r1]).wr W2 (Or.inl (List.mem_of_getElem? (i := 0) rfl))
  have O2 := O0.wr W2 P6
  have N2 := Fr.snoc X2 N0 P6
  have fc3 := (P3.other W2 (Or.inr (slot_ne (Or.inr (w151 hw)) (Or.inr (w149 hw)) (by decide) (t := .int) (t' := (.object sN3)) (by decide) (by decide))))
  obtain ⟨T4, h4, X4, e4, W4, st4⟩ := putF X2 hx hZ hown (host := "") (Or.inl (w150 hw)) Via.refl e2 fc3 (P1.wr W2) (Or.inr ⟨(w151 hw), rfl, hnm⟩) (w137 hw) (ty := .int) (by decide) rfl rfl (g := (mkF m 11 #[.val (.ref r1), .val (.ref r2), .val (.int (1 : Int32))] [(.int (1 : Int32)), (.ref r1)])) rfl rfl (hb hby d19_11)
  have Fw4 := fc3.same W4
  have KK4 : Keep h0 h4 [r1] := KK2.wr W4 (Or.inl (List.mem_of_getElem? (i := 0) rfl))
  have O4 := O2.wr W4 P6
  have N4 := Fr.snoc X4 N2 P6
  have fc5 := ((P4.other W2 (Or.inr (slot_ne (Or.inl (w153 hw)) (Or.inr (w149 hw)) (by decide) (t := .int) (t' := (.object sN3)) (by decide) (by decide)))).other W4 (Or.inr (slot_ne (Or.inl (w153 hw)) (Or.inr (w151 hw)) (by decide) (t := .int) (t' := .int) (by decide) (by decide))))
  obtain ⟨T6, h6, X6, e6, W6, st6⟩ := putF X4 hx hZ hown (host := "") (Or.inl (w152 hw)) Via.refl e4 fc5 ((P1.wr W2).wr W4) (Or.inl (w153 hw)) (w137 hw) (ty := .int) (by decide) rfl rfl (g := (mkF m 16 #[.val (.ref r1), .val (.ref r2), .val (.int (1 : Int32))] [(.int (0 : Int32)), (.ref r1)])) rfl rfl (hb hby d19_16)
  have Fw6 := fc5.same W6
  have KK6 : Keep h0 h6 [r1] := KK4.wr W6 (Or.inl (List.mem_of_getElem? (i := 0) rfl))
  have O6 := O4.wr W6 P6
  have N6 := Fr.snoc X6 N4 P6
  have fc7 := (((P5.other W2 (Or.inr (slot_ne (Or.inr (w155 hw)) (Or.inr (w149 hw)) (by decide) (t := .boolean) (t' := (.object sN3)) (by decide) (by decide)))).other W4 (Or.inr (slot_ne (Or.inr (w155 hw)) (Or.inr (w151 hw)) (by decide) (t := .boolean) (t' := .int) (by decide) (by decide)))).other W6 (Or.inr (slot_ne (Or.inr (w155 hw)) (Or.inl (w153 hw)) (by decide) (t := .boolean) (t' := .int) (by decide) (by decide))))
  obtain ⟨T8, h8, X8, e8, W8, st8⟩ := putFN X6 hx hZ hown (w154 hw) Via.refl e6 fc7 (((P1.wr W2).wr W4).wr W6) (Or.inr ⟨(w155 hw), rfl, hnm⟩) (w137 hw) (ty := .boolean) (v' := (.int (0 : Int32))) (by decide) (by decide) (by decide) (g := (mkF m 21 #[.val (.ref r1), .val (.ref r2), .val (.int (1 : Int32))] [(.int (0 : Int32)), (.ref r1)])) rfl rfl (hb hby d19_21)
  have Fw8 := fc7.same W8
  have KK8 : Keep h0 h8 [r1] := KK6.wr W8 (Or.inl (List.mem_of_getElem? (i := 0) rfl))
  have O8 := O6.wr W8 P6
  have N8 := Fr.snoc X8 N6 P6
  have fc9 := (((Fw2.other W4 (Or.inr (slot_ne (Or.inr (w149 hw)) (Or.inr (w151 hw)) (by decide) (t := (.object sN3)) (t' := .int) (by decide) (by decide)))).other W6 (Or.inr (slot_ne (Or.inr (w149 hw)) (Or.inl (w153 hw)) (by decide) (t := (.object sN3)) (t' := .int) (by decide) (by decide)))).other W8 (Or.inr (slot_ne (Or.inr (w149 hw)) (Or.inr (w155 hw)) (by decide) (t := (.object sN3)) (t' := .boolean) (by decide) (by decide))))
  have fc10 := ((Fw4.other W6 (Or.inr (slot_ne (Or.inr (w151 hw)) (Or.inl (w153 hw)) (by decide) (t := .int) (t' := .int) (by decide) (by decide)))).other W8 (Or.inr (slot_ne (Or.inr (w151 hw)) (Or.inr (w155 hw)) (by decide) (t := .int) (t' := .boolean) (by decide) (by decide))))
  have fc11 := (Fw6.other W8 (Or.inr (slot_ne (Or.inl (w153 hw)) (Or.inr (w155 hw)) (by decide) (t := .int) (t' := .boolean) (by decide) (by decide))))
  refine ⟨none, _, _, _, _, X8, (fun _ => rfl), ?_, by decide, by decide, fun fs hr => castTop (ef_19_RRI m r1 r2 (1 : Int32)) ?_⟩
  · show Q_rm19_1 Z r1 r2 n0 h0 _ T8.heap _
    rw [e8]
    exact ⟨rfl, N8, KK8, fc9, fc10, fc11, Fw8⟩
  · show Steps p.tables e below (s₁.setTop (mkF m 0 #[.val (.ref r1), .val (.ref r2), .val (.int (1 : Int32))] [])) _
    refine XS.aloadN X0.here hx rfl (hb hby d19_0) rfl rfl ?_
    refine st1 _ ?_
    refine XS.aloadN X1.here hx rfl (hb hby d19_4) rfl rfl ?_
    refine XS.aloadN X1.here hx rfl (hb hby d19_5) rfl rfl ?_
    refine st2 _ ?_
    refine XS.aloadN X2.here hx rfl (hb hby d19_9) rfl rfl ?_
    refine XS.iloadN X2.here hx rfl (hb hby d19_10) rfl ?_
    refine st4 _ ?_
    show Steps p.tables e below (T4.setTop (mkF m 14 #[.val (.ref r1), .val (.ref r2), .val (.int (1 : Int32))] [])) _
    refine XS.aloadN X4.here hx rfl (hb hby d19_14) rfl rfl ?_
    refine XS.iconst X4.here hx rfl (hb hby d19_15) ?_
    refine st6 _ ?_
    refine XS.aloadN X6.here hx rfl (hb hby d19_19) rfl rfl ?_
    refine XS.iconst X6.here hx rfl (hb hby d19_20) ?_
    refine st8 _ ?_
    exact X8.returnOut hx hret (hb hby d19_24) hr
def Q_rm18_1 (Z : State) (r1 : Addr) (w_NIL : Addr) (n0 : Nat) (h0 : Heap) (v : Option Value) (h : Heap) (L : List Loc) : Prop := ∃ b1 : Addr, v = (some (.ref b1)) ∧ Fr n0 L ∧ Keep h0 h [] ∧ h0.size ≤ b1 ∧ Exa Z h b1 sN5 ∧ Fld Z h b1 sN5 "list" sN10 (.ref r1) ∧ Fld Z h b1 sN5 "size" "I" (.int (1 : Int32)) ∧ Fld Z h b1 sN5 "cursor" "I" (.int (0 : Int32)) ∧ Fld Z h b1 sN5 sN19 "Z" (.int (0 : Int32))
theorem rm18_1 (l : Launch) (Z : State) (a0 : Array Value) (hw : own_HW a0 Z) (r1 : Addr) (w_NIL : Addr) (h0 : Heap) (n0 : Nat) (O0 : Old Z n0 h0) (P1 : Exa Z h0 r1 sN6) (P2 : Fld Z h0 r1 sN6 "e1" sN11 (.ref w_NIL)) (P3 : Sta Z Z.heap sN14 "EMPTY" sN11 (.ref w_NIL)) :
    own_Ct l Z yN8 jdk_46_method_10_code 1 (some (.object sN22)) ({ frames := 2, cells := 1, slots := 4, locals := 27 } : Room) #[(.ref r1)] h0 (Q_rm18_1 Z r1 w_NIL n0 h0) := by
  refine own_enter (own := sN21) rfl (plainFor_of_name pn_19) ?_
  intro p e s m below meth c s₁ X0 hx hby hml hown hnm hret hZ e0
  have N0 := Fr.nil n0
  obtain ⟨T1, h1, X1, e1, E1, A1, D1, -, st1⟩ := newO X0 hx hZ hown (w136 hw) (w137 hw) (w138 hw) e0 (g := (mkF m 0 #[.val (.ref r1)] [])) rfl (hb hby d18_0) (by decide) (by decide)
  obtain ⟨b1, gq1⟩ : ∃ z, z = h0.size := ⟨_, rfl⟩
  rw [← gq1] at A1 D1 st1
  have g_b1 : n0 ≤ b1 := Nat.le_trans ((O0.1 ▸ O0.2.1) : n0 ≤ h0.size) (Nat.le_of_eq gq1.symm)
  have sz_b1 : h0.size ≤ b1 := Nat.le_trans (Keep.refl h0 []).1 (Nat.le_of_eq gq1.symm)
  have KK1 : Keep h0 h1 [] := (Keep.refl h0 []).ext E1
  have O1 := O0.ext E1
  have F_list_b1 : Fld Z h1 b1 sN5 "list" sN10 .null := D1 (Or.inr (w149 hw)) (ty := (.object sN3)) (by decide)
  have F_size_b1 : Fld Z h1 b1 sN5 "size" "I" (.int (0 : Int32)) := D1 (Or.inr (w151 hw)) (ty := .int) (by decide)
  have F_cursor_b1 : Fld Z h1 b1 sN5 "cursor" "I" (.int (0 : Int32)) := D1 (Or.inl (w153 hw)) (ty := .int) (by decide)
  have F_isListIterator_b1 : Fld Z h1 b1 sN5 sN19 "Z" (.int (0 : Int32)) := D1 (Or.inr (w155 hw)) (ty := .boolean) (by decide)
  obtain ⟨_, T2, L2, X2, hQ2, st2⟩ := own_cU (owner := sN29) X1 hx hZ hown (w139 hw) (w140 hw) (w141 hw) (w361 hw) (w354 hw) (w338 hw) (w358 hw) (by decide) (P1.ext E1) (rm47_0 l Z a0 hw r1 w_NIL h1 n0 O1 (P2.ext E1) P3) e1 (hb hby d18_6) hml pd_15 [] [(.ref r1), (.ref b1), (.ref b1)] (g := (mkF m 6 #[.val (.ref r1)] [(.ref r1), (.ref r1), (.ref b1), (.ref b1)]))
  obtain ⟨rfl, N2q, e2⟩ := hQ2
  have N2 := Fr.app N0 N2q
  obtain ⟨_, T3, L3, X3, hQ3, st3⟩ := own_cI X2 hx hZ hown rfl (w143 hw) (w144 hw) (w138 hw) (w146 hw) (rm19_1 l Z a0 hw b1 r1 h1 n0 O1 A1 F_list_b1 F_size_b1 F_cursor_b1 F_isListIterator_b1 g_b1) e2 (hb hby d18_9) hml pd_18 [(.ref r1), (.int (1 : Int32))] [(.ref b1)] (g := (mkF m 9 #[.val (.ref r1)] [(.int (1 : Int32)), (.ref r1), (.ref b1), (.ref b1)]))
  obtain ⟨rfl, N3q, K3, f3_0, f3_1, f3_2, f3_3⟩ := hQ3
  have KK3 : Keep h0 T3.heap [] := KK1.trans K3 (allS (Or.inr sz_b1) all0)
  have O3 := O1.keep K3 (allS g_b1 all0)
  have N3 := Fr.app N2 N3q
  refine ⟨(some (.ref b1)), _, _, _, _, X3, (fun h => nomatch h), ?_, by decide, by decide, fun fs hr => castTop (ef_18_R m r1) ?_⟩
  · show Q_rm18_1 Z r1 w_NIL n0 h0 _ T3.heap _
    exact ⟨b1, rfl, N3, KK3, sz_b1, (A1.keep K3), f3_0, f3_1, f3_2, f3_3⟩
  · show Steps p.tables e below (s₁.setTop (mkF m 0 #[.val (.ref r1)] [])) _
    refine st1 _ ?_
    refine XS.dup X1.here hx rfl (hb hby d18_3) rfl rfl ?_
    refine XS.aloadN X1.here hx rfl (hb hby d18_4) rfl rfl ?_
    refine XS.aloadN X1.here hx rfl (hb hby d18_5) rfl rfl ?_
    refine st2 _ ?_
    refine st3 _ ?_
    exact retA X3 hx hret rfl rfl rfl (hb hby d18_12) hr
theorem rm20_1 (l : Launch) (Z : State) (a0 : Array Value) (hw : own_HW a0 Z) (r1 : Addr) (h0 : Heap) (n0 : Nat) (O0 : Old Z n0 h0) (P1 : Fld Z h0 r1 sN5 "cursor" "I" (.int (0 : Int32))) (P2 : Fld Z h0 r1 sN5 "size" "I" (.int (1 : Int32))) :
    own_Ct l Z yN2 jdk_53_method_3_code 1 (some .boolean) ({ frames := 0, cells := 0, slots := 0, locals := 0 } : Room) #[(.ref r1)] h0 (own_QP (some (.int (1 : Int32))) n0 h0) := by
  refine own_enter (own := sN5) rfl (plainFor_of_name pn_16) ?_
  intro p e s m below meth c s₁ X0 hx hby hml hown hnm hret hZ e0
  have N0 := Fr.nil n0
  obtain ⟨T1, X1, e1, st1⟩ := getF X0 hx hZ hown (host := "") (Or.inl (w152 hw)) Via.refl e0 P1 (g := (mkF m 1 #[.val (.ref r1)] [(.ref r1)])) rfl rfl (hb hby d20_1)
  obtain ⟨T2, X2, e2, st2⟩ := getF X1 hx hZ hown (host := "") (Or.inl (w150 hw)) Via.refl e1 P2 (g := (mkF m 5 #[.val (.ref r1)] [(.ref r1), (.int (0 : Int32))])) rfl rfl (hb hby d20_5)
  refine ⟨(some (.int (1 : Int32))), _, _, _, _, X2, (fun h => nomatch h), ?_, by decide, by decide, fun fs hr => castTop (ef_20_R m r1) ?_⟩
  · show own_QP (some (.int (1 : Int32))) n0 h0 _ T2.heap _
    rw [e2]
    exact ⟨rfl, N0, rfl⟩
  · show Steps p.tables e below (s₁.setTop (mkF m 0 #[.val (.ref r1)] [])) _
    refine XS.aloadN X0.here hx rfl (hb hby d20_0) rfl rfl ?_
    refine st1 _ ?_
    refine XS.aloadN X1.here hx rfl (hb hby d20_4) rfl rfl ?_
    refine st2 _ ?_
    refine XS.icmpNo X2.here hx rfl (hb hby d20_8) rfl (by decide) ?_
    refine XS.iconst X2.here hx rfl (hb hby d20_11) ?_
    refine XS.goto X2.here hx rfl (pc0 := 12) (pc' := 16) rfl (hb hby d20_12) (by decide) (by decide) ?_
    exact retN X2 hx (t := .boolean) hret (by simp) (hb hby d20_16) hr
theorem rm48_0 (l : Launch) (Z : State) (a0 : Array Value) (hw : own_HW a0 Z) (r1 : Addr) (w_x0 : Addr) (h0 : Heap) (n0 : Nat) (O0 : Old Z n0 h0) (P1 : Fld Z h0 r1 sN6 "e0" sN11 (.ref w_x0)) :
    own_Ct l Z yN34 jdk_44_method_5_code 2 (some (.object sN1)) ({ frames := 0, cells := 0, slots := 0, locals := 0 } : Room) #[(.ref r1), (.int (0 : Int32))] h0 (own_QP (some (.ref w_x0)) n0 h0) := by
  refine own_enter (own := sN6) rfl (plainFor_of_name pn_40) ?_
  intro p e s m below meth c s₁ X0 hx hby hml hown hnm hret hZ e0
  have N0 := Fr.nil n0
  obtain ⟨T1, X1, e1, st1⟩ := getF X0 hx hZ hown (host := "") (Or.inl (w348 hw)) Via.refl e0 P1 (g := (mkF m 5 #[.val (.ref r1), .val (.int (0 : Int32))] [(.ref r1)])) rfl rfl (hb hby d48_5)
  refine ⟨(some (.ref w_x0)), _, _, _, _, X1, (fun h => nomatch h), ?_, by decide, by decide, fun fs hr => castTop (ef_48_RI m r1 (0 : Int32)) ?_⟩
  · show own_QP (some (.ref w_x0)) n0 h0 _ T1.heap _
    rw [e1]
    exact ⟨rfl, N0, rfl⟩
  · show Steps p.tables e below (s₁.setTop (mkF m 0 #[.val (.ref r1), .val (.int (0 : Int32))] [])) _
    refine XS.iloadN X0.here hx rfl (hb hby d48_0) rfl ?_
    refine XS.ifNo X0.here hx rfl (hb hby d48_1) rfl (by decide) ?_
    refine XS.aloadN X0.here hx rfl (hb hby d48_4) rfl rfl ?_
    refine st1 _ ?_
    exact retA X1 hx hret rfl rfl rfl (hb hby d48_8) hr
def Q_rm30_0 (Z : State) (r1 : Addr) (r2 : Addr) (w_x0 : Addr) (n0 : Nat) (h0 : Heap) (v : Option Value) (h : Heap) (L : List Loc) : Prop := v = (some (.ref w_x0)) ∧ Fr n0 L ∧ Keep h0 h [r1] ∧ Fld Z h r1 sN5 "cursor" "I" (.int (1 : Int32)) ∧ Fld Z h r1 sN5 "list" sN10 (.ref r2) ∧ Fld Z h r1 sN5 "size" "I" (.int (1 : Int32)) ∧ Fld Z h r1 sN5 sN19 "Z" (.int (0 : Int32))
theorem rm30_0 (l : Launch) (Z : State) (a0 : Array Value) (hw : ∀ d ∈ tables_1, d.before a0 Z = true) (r1 : Addr) (r2 : Addr) (w_x0 : Addr) (h0 : Heap) (n0 : Nat) (O0 : Old Z n0 h0) (P1 : Fld Z h0 r1 sN5 "cursor" "I" (.int (0 : Int32))) (P2 : Fld Z h0 r1 sN5 "list" sN10 (.ref r2)) (P3 : Exa Z h0 r2 sN6) (P4 : Fld Z h0 r2 sN6 "e0" sN11 (.ref w_x0)) (P5 : Exa Z h0 r1 sN5) (P6 : Fld Z h0 r1 sN5 "size" "I" (.int (1 : Int32))) (P7 : Fld Z h0 r1 sN5 sN19 "Z" (.int (0 : Int32))) (P8 : n0 ≤ r1) :
    MetFree l yN0 (head1 [Jvm.Cond.codeWith yN0 jdk_53_method_4_code 3 (some (.object sN1)) [((0 : Nat), (24 : Nat), (25 : Nat), (30 : Nat))]] ({ frames := 1, cells := 0, slots := 0, locals := 13 } : Room)) (fun a U => a = #[(.ref r1)] ∧ Z.Warmed39 U.vm ∧ U.heap = h0) (fun _ _ _ _ _ => True) (fun _ U o U' => ∃ v L, o = .returned v ∧ Q_rm30_0 Z r1 r2 w_x0 n0 h0 v U'.heap L ∧ FrameEnd U o U' L ({ frames := 1, cells := 0, slots := 0, locals := 13 } : Room).cells ({ frames := 1, cells := 0, slots := 0, locals := 13 } : Room).slots) := by
  refine MetFree.of_bodySF (plainFor_of_name pn_16) hisWith ?_
  intro p e s m args below meth c s₁ Bd hml0 hP hK
  obtain ⟨rfl, hZ, hh⟩ := hP
  have hx := Bd.exec
  have hby := Bd.bytes
  have hml : c.maxLocals = 3 := hml0
  have hown : s.vm.findClass sN5 = some m.cls := findClass_of_methodNamed Bd.named
  have hnm := (name_of_methodNamed Bd.named Bd.method).1
  have X0 : Stand p l e ({ frames := 1, cells := 0, slots := 0, locals := 13 } : Room) s m #[(.ref r1)] below meth c s₁ [] 0 0 := Stand.of_body Bd
  have e0 : s₁.heap = h0 := by rw [← hh, Bd.state]; rfl
  have N0 := Fr.nil n0
  have pre0 : ∀ t, Steps p.tables e below (s₁.setTop (mkF m 0 #[.val (.ref r1), .unset, .unset] [])) t → Steps p.tables e below (s₁.setTop (entryFrame m #[(.ref r1)] 3)) t := fun t k => castTop (ef_30_R m r1) k
  obtain ⟨T1, X1, e1, st1⟩ := getF X0 hx hZ hown (host := "") (Or.inl (w152 hw)) Via.refl e0 P1 (g := (mkF m 1 #[.val (.ref r1), .unset, .unset] [(.ref r1)])) rfl rfl (hb hby d30_1)
  obtain ⟨T2, X2, e2, st2⟩ := getF X1 hx hZ hown (host := "") (Or.inl (w148 hw)) Via.refl e1 P2 (g := (mkF m 6 #[.val (.ref r1), .val (.int (0 : Int32)), .unset] [(.ref r1)])) rfl rfl (hb hby d30_6)
  obtain ⟨_, T3, L3, X3, hQ3, st3⟩ := own_cF X2 hx hZ hown (w231 hw) (w232 hw) (w233 hw) (w362 hw) (w363 hw) (w364 hw) (w365 hw) (w357 hw) (w338 hw) (w366 hw) P3 (rm48_0 l Z a0 hw r2 w_x0 h0 n0 O0 P4) e2 (hb hby d30_10) hml pd_47 [(.int (0 : Int32))] [] (g := (mkF m 10 #[.val (.ref r1), .val (.int (0 : Int32)), .unset] [(.int (0 : Int32)), (.ref r2)]))
  obtain ⟨rfl, N3q, e3⟩ := hQ3
  have N3 := Fr.app N0 N3q
  obtain ⟨T4, h4, X4, e4, W4, st4⟩ := putF X3 hx hZ hown (host := "") (Or.inl (w152 hw)) Via.refl e3 P1 P5 (Or.inl (w153 hw)) (w137 hw) (ty := .int) (by decide) rfl rfl (g := (mkF m 20 #[.val (.ref r1), .val (.int (0 : Int32)), .val (.ref w_x0)] [(.int (1 : Int32)), (.ref r1)])) rfl rfl (hb hby d30_20)
  have Fw4 := P1.same W4
  have KK4 : Keep h0 h4 [r1] := (Keep.refl h0 [r1]).wr W4 (Or.inl (List.mem_of_getElem? (i := 0) rfl))
  have O4 := O0.wr W4 P8
  have N4 := Fr.snoc X4 N3 P8
  have fc5 := (P2.other W4 (Or.inr (slot_ne (Or.inr (w149 hw)) (Or.inl (w153 hw)) (by decide) (t := (.object sN3)) (t' := .int) (by decide) (by decide))))
  have fc6 := (P6.other W4 (Or.inr (slot_ne (Or.inr (w151 hw)) (Or.inl (w153 hw)) (by decide) (t := .int) (t' := .int) (by decide) (by decide))))
  have fc7 := (P7.other W4 (Or.inr (slot_ne (Or.inr (w155 hw)) (Or.inl (w153 hw)) (by decide) (t := .boolean) (t' := .int) (by decide) (by decide))))
  obtain ⟨fs, hr, hrun, hended, hW, hsame⟩ := X4.leave (v := (some (.ref w_x0))) (fun h => by rw [Bd.returns] at h; cases h)
  refine ⟨_, _, pre0 _ ?_, hrun, hended, _, _, rfl, ?_, ⟨_, rfl⟩, hW, hsame.mono (by decide) (by decide)⟩
  · show Steps p.tables e below (s₁.setTop (mkF m 0 #[.val (.ref r1), .unset, .unset] [])) _
    refine XS.aloadN X0.here hx rfl (hb hby d30_0) rfl rfl ?_
    refine st1 _ ?_
    refine XS.istoreN X1.here hx rfl (hb hby d30_4) rfl (l' := #[.val (.ref r1), .val (.int (0 : Int32)), .unset]) rfl ?_
    refine XS.aloadN X1.here hx rfl (hb hby d30_5) rfl rfl ?_
    refine st2 _ ?_
    refine XS.iloadN X2.here hx rfl (hb hby d30_9) rfl ?_
    refine st3 _ ?_
    refine XS.astoreN X3.here hx rfl (hb hby d30_15) rfl rfl (l' := #[.val (.ref r1), .val (.int (0 : Int32)), .val (.ref w_x0)]) rfl ?_
    show Steps p.tables e below (T3.setTop (mkF m 16 #[.val (.ref r1), .val (.int (0 : Int32)), .val (.ref w_x0)] [])) _
    refine XS.aloadN X3.here hx rfl (hb hby d30_16) rfl rfl ?_
    refine XS.iloadN X3.here hx rfl (hb hby d30_17) rfl ?_
    refine XS.iconst X3.here hx rfl (hb hby d30_18) ?_
    refine XS.iadd X3.here hx rfl (hb hby d30_19) rfl ?_
    show Steps p.tables e below (T3.setTop (mkF m 20 #[.val (.ref r1), .val (.int (0 : Int32)), .val (.ref w_x0)] [(.int ((0 : Int32) + (1 : Int32))), (.ref r1)])) _
    rw [fo_0]
    refine st4 _ ?_
    refine XS.aloadN X4.here hx rfl (hb hby d30_23) rfl rfl ?_
    exact retA X4 hx Bd.returns rfl rfl rfl (hb hby d30_24) hr
  · show Q_rm30_0 Z r1 r2 w_x0 n0 h0 _ T4.heap _
    rw [e4]
    exact ⟨rfl, N4, KK4, Fw4, fc5, fc6, fc7⟩
theorem rm32_0 (l : Launch) (Z : State) (a0 : Array Value) (hw : own_HW a0 Z) (w_x0 : Addr) (w_BOOLEAN : Addr) (h0 : Heap) (n0 : Nat) (O0 : Old Z n0 h0) (P1 : Fld Z Z.heap w_x0 sN9 "dataType" sN15 (.ref w_BOOLEAN)) :
    own_Ct l Z yN9 prog_166_method_11_code 1 (some (.object sN12)) ({ frames := 0, cells := 0, slots := 0, locals := 0 } : Room) #[(.ref w_x0)] h0 (own_QP (some (.ref w_BOOLEAN)) n0 h0) := by
  refine own_enter (own := sN9) rfl (plainFor_of_name pn_50) ?_
  intro p e s m below meth c s₁ X0 hx hby hml hown hnm hret hZ e0
  have N0 := Fr.nil n0
  obtain ⟨T1, X1, e1, st1⟩ := getF X0 hx hZ hown (host := "") (Or.inl (w246 hw)) Via.refl e0 (P1.ext O0.2) (g := (mkF m 1 #[.val (.ref w_x0)] [(.ref w_x0)])) rfl rfl (hb hby d32_1)
  refine ⟨(some (.ref w_BOOLEAN)), _, _, _, _, X1, (fun h => nomatch h), ?_, by decide, by decide, fun fs hr => castTop (ef_32_R m w_x0) ?_⟩
  · show own_QP (some (.ref w_BOOLEAN)) n0 h0 _ T1.heap _
    rw [e1]
    exact ⟨rfl, N0, rfl⟩
  · show Steps p.tables e below (s₁.setTop (mkF m 0 #[.val (.ref w_x0)] [])) _
    refine XS.aloadN X0.here hx rfl (hb hby d32_0) rfl rfl ?_
    refine st1 _ ?_
    exact retA X1 hx hret rfl rfl rfl (hb hby d32_4) hr
theorem rm20_2 (l : Launch) (Z : State) (a0 : Array Value) (hw : own_HW a0 Z) (r1 : Addr) (h0 : Heap) (n0 : Nat) (O0 : Old Z n0 h0) (P1 : Fld Z h0 r1 sN5 "cursor" "I" (.int (1 : Int32))) (P2 : Fld Z h0 r1 sN5 "size" "I" (.int (1 : Int32))) :
    own_Ct l Z yN2 jdk_53_method_3_code 1 (some .boolean) ({ frames := 0, cells := 0, slots := 0, locals := 0 } : Room) #[(.ref r1)] h0 (own_QP (some (.int (0 : Int32))) n0 h0) := by
  refine own_enter (own := sN5) rfl (plainFor_of_name pn_16) ?_
  intro p e s m below meth c s₁ X0 hx hby hml hown hnm hret hZ e0
  have N0 := Fr.nil n0
  obtain ⟨T1, X1, e1, st1⟩ := getF X0 hx hZ hown (host := "") (Or.inl (w152 hw)) Via.refl e0 P1 (g := (mkF m 1 #[.val (.ref r1)] [(.ref r1)])) rfl rfl (hb hby d20_1)
  obtain ⟨T2, X2, e2, st2⟩ := getF X1 hx hZ hown (host := "") (Or.inl (w150 hw)) Via.refl e1 P2 (g := (mkF m 5 #[.val (.ref r1)] [(.ref r1), (.int (1 : Int32))])) rfl rfl (hb hby d20_5)
  refine ⟨(some (.int (0 : Int32))), _, _, _, _, X2, (fun h => nomatch h), ?_, by decide, by decide, fun fs hr => castTop (ef_20_R m r1) ?_⟩
  · show own_QP (some (.int (0 : Int32))) n0 h0 _ T2.heap _
    rw [e2]
    exact ⟨rfl, N0, rfl⟩
  · show Steps p.tables e below (s₁.setTop (mkF m 0 #[.val (.ref r1)] [])) _
    refine XS.aloadN X0.here hx rfl (hb hby d20_0) rfl rfl ?_
    refine st1 _ ?_
    refine XS.aloadN X1.here hx rfl (hb hby d20_4) rfl rfl ?_
    refine st2 _ ?_
    refine XS.icmpYes X2.here hx rfl (pc0 := 8) (pc' := 15) rfl (hb hby d20_8) rfl (by decide) (by decide) (by decide) ?_
    refine XS.iconst X2.here hx rfl (hb hby d20_15) ?_
    exact retN X2 hx (t := .boolean) hret (by simp) (hb hby d20_16) hr
theorem rm11_1 (l : Launch) (Z : State) (a0 : Array Value) (hw : own_HW a0 Z) (r1 : Addr) (w_BOOLEAN : Addr) (r2 : Addr) (r3 : Addr) (w_MIR : Addr) (k_r3 : ClassId) (w_x0 : Addr) (w_NIL : Addr) (h0 : Heap) (n0 : Nat) (O0 : Old Z n0 h0) (P1 : Exa Z Z.heap w_BOOLEAN sN12) (P2 : Exa Z h0 r1 sN2) (P3 : Fld Z h0 r1 sN2 "dataType" sN15 .null) (P4 : Fld Z h0 r1 sN2 "values" sN10 .null) (P5 : Fld Z h0 r1 sN2 "size" "I" (.int (0 : Int32))) (P6 : Fld Z h0 r1 sN2 "parts" sN10 .null) (P7 : n0 ≤ r1) (P8 : Exa Z h0 r2 sN0) (P9 : Fld Z h0 r2 sN0 "size" "I" (.int (1 : Int32))) (P10 : Fld Z h0 r2 sN0 "elementData" sN4 (.ref r3)) (P11 : Exa Z h0 r3 sN4) (P12 : Mir Z sN4 w_MIR) (P13 : Arv Z h0 r3 k_r3 (.object sN1) (10 : Int32) [(.ref w_x0), .null, .null, .null, .null, .null, .null, .null, .null, .null] .null) (P14 : Exa Z Z.heap w_x0 sN9) (P15 : Sta Z Z.heap sN14 "EMPTY" sN11 (.ref w_NIL)) (P16 : Fld Z Z.heap w_x0 sN9 "dataType" sN15 (.ref w_BOOLEAN)) :
    own_Ct l Z yN10 prog_167_method_1_code 5 none ({ frames := 9, cells := 4, slots := 12, locals := 126 } : Room) #[(.ref r1), (.ref w_BOOLEAN), (.ref r2)] h0 (own_QB Z r1 w_BOOLEAN (1 : Int32) n0 h0) := by
  refine own_enter (own := sN2) rfl (plainFor_of_name pn_23) ?_
  intro p e s m below meth c s₁ X0 hx hby hml hown hnm hret hZ e0
  have N0 := Fr.nil n0
  obtain ⟨T1, X1, e1, st1⟩ := initO X0 hx hZ hown (w73 hw) (w19 hw) (w20 hw) e0 (g := (mkF m 1 #[.val (.ref r1), .val (.ref w_BOOLEAN), .val (.ref r2), .unset, .unset] [(.ref r1)])) rfl (by rw [hml]; rfl) rfl (hb hby d11_1) (by decide) (W := 0) (by show 2 * 0 + _ ≤ _; exact Nat.le_of_eq rfl) (by decide)
  obtain ⟨_, T2, L2, X2, hQ2, st2⟩ := own_cS X1 hx hZ hown (w74 hw) (w75 hw) (w76 hw) (w77 hw) (rm12_0 l Z a0 hw w_BOOLEAN h0 n0 O0 ) e1 (hb hby d11_6) hml pd_2 [(.ref w_BOOLEAN)] [(.ref r1)] (g := (mkF m 6 #[.val (.ref r1), .val (.ref w_BOOLEAN), .val (.ref r2), .unset, .unset] [(.ref w_BOOLEAN), (.ref r1)]))
  obtain ⟨rfl, N2q, e2⟩ := hQ2
  have N2 := Fr.app N0 N2q
  obtain ⟨T3, X3, e3, st3⟩ := castY X2 hx hZ hown (w78 hw) e2 (Ins.self (P1.ext O0.2)) (g := (mkF m 9 #[.val (.ref r1), .val (.ref w_BOOLEAN), .val (.ref r2), .unset, .unset] [(.ref w_BOOLEAN), (.ref r1)])) rfl rfl (hb hby d11_9)
  obtain ⟨T4, h4, X4, e4, W4, st4⟩ := putF X3 hx hZ hown (host := "") (Or.inl (w80 hw)) Via.refl e3 P3 P2 (Or.inr ⟨(w81 hw), rfl, hnm⟩) (w65 hw) (ty := (.object sN12)) (by decide) rfl rfl (g := (mkF m 12 #[.val (.ref r1), .val (.ref w_BOOLEAN), .val (.ref r2), .unset, .unset] [(.ref w_BOOLEAN), (.ref r1)])) rfl rfl (hb hby d11_12)
  have Fw4 := P3.same W4
  have KK4 : Keep h0 h4 [r1] := (Keep.refl h0 [r1]).wr W4 (Or.inl (List.mem_of_getElem? (i := 0) rfl))
  have O4 := O0.wr W4 P7
  have N4 := Fr.snoc X4 N2 P7
  have nz5 : r2 ≠ r1 := (ne_exa P8 P2 (by decide))
  have nz6 : r3 ≠ r1 := (ne_exa P11 P2 (by decide))
  obtain ⟨_, T7, L7, X7, hQ7, st7⟩ := own_cS X4 hx hZ hown (w82 hw) (w83 hw) (w84 hw) (w85 hw) (rm13_1 l Z a0 hw r2 r3 w_MIR w_x0 k_r3 w_NIL h4 n0 O4 (P8.wr W4) (P9.other W4 (Or.inl nz5)) (P10.other W4 (Or.inl nz5)) (P11.wr W4) P12 (P13.other W4 nz6) P14 P15) e4 (hb hby d11_17) hml pd_11 [(.ref r2)] [(.ref r1)] (g := (mkF m 17 #[.val (.ref r1), .val (.ref w_BOOLEAN), .val (.ref r2), .unset, .unset] [(.ref r2), (.ref r1)]))
  obtain ⟨b7_0, rfl, N7q, K7, ge_b7_0, f7_0, f7_1, f7_2⟩ := hQ7
  have g_b7_0 : n0 ≤ b7_0 := Nat.le_trans ((O4.1 ▸ O4.2.1) : n0 ≤ h4.size) ge_b7_0
  have sz_b7_0 : h0.size ≤ b7_0 := Nat.le_trans KK4.1 ge_b7_0
  have KK7 : Keep h0 T7.heap [r1] := KK4.trans K7 all0
  have O7 := O4.keep K7 all0
  have N7 := Fr.app N4 N7q
  have fc8 := ((P4.other W4 (Or.inr (slot_ne (Or.inr (w110 hw)) (Or.inr (w81 hw)) (by decide) (t := (.object sN3)) (t' := (.object sN12)) (by decide) (by decide)))).keep K7 nin0)
  obtain ⟨T9, h9, X9, e9, W9, st9⟩ := putF X7 hx hZ hown (host := "") (Or.inl (w109 hw)) Via.refl rfl fc8 ((P2.wr W4).keep K7) (Or.inr ⟨(w110 hw), rfl, hnm⟩) (w65 hw) (ty := (.object sN3)) (by decide) rfl rfl (g := (mkF m 20 #[.val (.ref r1), .val (.ref w_BOOLEAN), .val (.ref r2), .unset, .unset] [(.ref b7_0), (.ref r1)])) rfl rfl (hb hby d11_20)
  have Fw9 := fc8.same W9
  have KK9 : Keep h0 h9 [r1] := KK7.wr W9 (Or.inl (List.mem_of_getElem? (i := 0) rfl))
  have O9 := O7.wr W9 P7
  have N9 := Fr.snoc X9 N7 P7
  obtain ⟨T10, X10, e10, st10⟩ := getF X9 hx hZ hown (host := "") (Or.inl (w109 hw)) Via.refl e9 Fw9 (g := (mkF m 25 #[.val (.ref r1), .val (.ref w_BOOLEAN), .val (.ref r2), .unset, .unset] [(.ref r1), (.ref r1)])) rfl rfl (hb hby d11_25)
  have nz11 : b7_0 ≠ r1 := (ne_exa f7_0 ((P2.wr W4).keep K7) (by decide))
  obtain ⟨_, T12, L12, X12, hQ12, st12⟩ := own_cF X10 hx hZ hown (w111 hw) (w112 hw) (w113 hw) (w353 hw) (w354 hw) (w355 hw) (w356 hw) (w357 hw) (w338 hw) (w358 hw) (f7_0.wr W9) (rm47_0 l Z a0 hw b7_0 w_NIL h9 n0 O9 (f7_2.other W9 (Or.inl nz11)) P15) e10 (hb hby d11_28) hml pd_15 [] [(.ref r1)] (g := (mkF m 28 #[.val (.ref r1), .val (.ref w_BOOLEAN), .val (.ref r2), .unset, .unset] [(.ref b7_0), (.ref r1)]))
  obtain ⟨rfl, N12q, e12⟩ := hQ12
  have N12 := Fr.app N9 N12q
  have fc13 := (((P5.other W4 (Or.inr (slot_ne (Or.inr (w124 hw)) (Or.inr (w81 hw)) (by decide) (t := .int) (t' := (.object sN12)) (by decide) (by decide)))).keep K7 nin0).other W9 (Or.inr (slot_ne (Or.inr (w124 hw)) (Or.inr (w110 hw)) (by decide) (t := .int) (t' := (.object sN3)) (by decide) (by decide))))
  obtain ⟨T14, h14, X14, e14, W14, st14⟩ := putF X12 hx hZ hown (host := "") (Or.inl (w123 hw)) Via.refl e12 fc13 (((P2.wr W4).keep K7).wr W9) (Or.inr ⟨(w124 hw), rfl, hnm⟩) (w65 hw) (ty := .int) (by decide) rfl rfl (g := (mkF m 33 #[.val (.ref r1), .val (.ref w_BOOLEAN), .val (.ref r2), .unset, .unset] [(.int (1 : Int32)), (.ref r1)])) rfl rfl (hb hby d11_33)
  have Fw14 := fc13.same W14
  have KK14 : Keep h0 h14 [r1] := KK9.wr W14 (Or.inl (List.mem_of_getElem? (i := 0) rfl))
  have O14 := O9.wr W14 P7
  have N14 := Fr.snoc X14 N12 P7
  have fc15 := ((((P6.other W4 (Or.inr (slot_ne (Or.inr (w126 hw)) (Or.inr (w81 hw)) (by decide) (t := (.object sN3)) (t' := (.object sN12)) (by decide) (by decide)))).keep K7 nin0).other W9 (Or.inr (slot_ne (Or.inr (w126 hw)) (Or.inr (w110 hw)) (by decide) (t := (.object sN3)) (t' := (.object sN3)) (by decide) (by decide)))).other W14 (Or.inr (slot_ne (Or.inr (w126 hw)) (Or.inr (w124 hw)) (by decide) (t := (.object sN3)) (t' := .int) (by decide) (by decide))))
  obtain ⟨T16, h16, X16, e16, W16, st16⟩ := putF X14 hx hZ hown (host := "") (Or.inl (w125 hw)) Via.refl e14 fc15 ((((P2.wr W4).keep K7).wr W9).wr W14) (Or.inr ⟨(w126 hw), rfl, hnm⟩) (w65 hw) (ty := (.object sN3)) (by decide) rfl rfl (g := (mkF m 38 #[.val (.ref r1), .val (.ref w_BOOLEAN), .val (.ref r2), .unset, .unset] [.null, (.ref r1)])) rfl rfl (hb hby d11_38)
  have Fw16 := fc15.same W16
  have KK16 : Keep h0 h16 [r1] := KK14.wr W16 (Or.inl (List.mem_of_getElem? (i := 0) rfl))
  have O16 := O14.wr W16 P7
  have N16 := Fr.snoc X16 N14 P7
  have fc17 := (((((P2.wr W4).keep K7).wr W9).wr W14).wr W16)
  have fc18 := ((Fw9.other W14 (Or.inr (slot_ne (Or.inr (w110 hw)) (Or.inr (w124 hw)) (by decide) (t := (.object sN3)) (t' := .int) (by decide) (by decide)))).other W16 (Or.inr (slot_ne (Or.inr (w110 hw)) (Or.inr (w126 hw)) (by decide) (t := (.object sN3)) (t' := (.object sN3)) (by decide) (by decide))))
  obtain ⟨T19, X19, e19, st19⟩ := getF X16 hx hZ hown (host := "") (Or.inl (w109 hw)) Via.refl e16 fc18 (g := (mkF m 42 #[.val (.ref r1), .val (.ref w_BOOLEAN), .val (.ref r2), .unset, .unset] [(.ref r1)])) rfl rfl (hb hby d11_42)
  have fc20 := (((f7_2.other W9 (Or.inl nz11)).other W14 (Or.inl nz11)).other W16 (Or.inl nz11))
  obtain ⟨_, T21, L21, X21, hQ21, st21⟩ := own_cF X19 hx hZ hown (w127 hw) (w128 hw) (w129 hw) (w359 hw) (w131 hw) (w132 hw) (w360 hw) (w357 hw) (w134 hw) (w135 hw) (((f7_0.wr W9).wr W14).wr W16) (rm18_1 l Z a0 hw b7_0 w_NIL h16 n0 O16 (((f7_0.wr W9).wr W14).wr W16) fc20 P15) e19 (hb hby d11_45) hml pd_21 [] [] (g := (mkF m 45 #[.val (.ref r1), .val (.ref w_BOOLEAN), .val (.ref r2), .unset, .unset] [(.ref b7_0)]))
  obtain ⟨b21_0, rfl, N21q, K21, ge_b21_0, f21_0, f21_1, f21_2, f21_3, f21_4⟩ := hQ21
  have g_b21_0 : n0 ≤ b21_0 := Nat.le_trans ((O16.1 ▸ O16.2.1) : n0 ≤ h16.size) ge_b21_0
  have sz_b21_0 : h0.size ≤ b21_0 := Nat.le_trans KK16.1 ge_b21_0
  have KK21 : Keep h0 T21.heap [r1] := KK16.trans K21 all0
  have O21 := O16.keep K21 all0
  have N21 := Fr.app N16 N21q
  obtain ⟨_, T22, L22, X22, hQ22, st22⟩ := own_cF X21 hx hZ hown (w156 hw) (w157 hw) (w158 hw) (w159 hw) (w160 hw) (w161 hw) (w162 hw) (w163 hw) (w138 hw) (w164 hw) f21_0 (rm20_1 l Z a0 hw b21_0 T21.heap n0 O21 f21_3 f21_2) rfl (hb hby d11_52) hml pd_5 [] [] (g := (mkF m 52 #[.val (.ref r1), .val (.ref w_BOOLEAN), .val (.ref r2), .val (.ref b21_0), .unset] [(.ref b21_0)]))
  obtain ⟨rfl, N22q, e22⟩ := hQ22
  have N22 := Fr.app N21 N22q
  have fc23 := ((((f7_0.wr W9).wr W14).wr W16).keep K21)
  have fc24 := ((((f7_1.other W9 (Or.inl nz11)).other W14 (Or.inl nz11)).other W16 (Or.inl nz11)).keep K21 nin0)
  obtain ⟨cq25, kq25, q25a, q25b, q25c⟩ := isOf hZ e22 f21_0
  obtain ⟨_, _, ⟨T25, L25, k25, n25⟩, -, X25, ⟨Lc25, hQ25, l25, y25, z25⟩, st25⟩ := X22.interfaceBack hx (xi := yN6) (y := yN0) hown (mvT hZ (w223 hw)) (mvT hZ (w224 hw)) (mvT hZ (w225 hw)) (mvT hZ (w226 hw)) (mvT hZ (w227 hw)) (mvT hZ (w228 hw)) (mvT hZ (w229 hw)) (mvT hZ (w163 hw)) (by decide) (backOfWith (W := 0) (rm30_0 l Z a0 hw b21_0 b7_0 w_x0 T21.heap n0 O21 f21_3 f21_1 fc23 fc24 f21_0 f21_2 f21_4 g_b21_0) hZ (w230 hw) (w138 hw) (by decide) (by decide)) q25a q25b q25c (g := (mkF m 61 #[.val (.ref r1), .val (.ref w_BOOLEAN), .val (.ref r2), .val (.ref b21_0), .unset] [(.ref b21_0)])) rfl (by rw [hml]; rfl) (Steps.refl _) (argsL := []) (rest := []) (lenOf pd_49 rfl) rfl (by show 2 * 0 + _ ≤ _; exact Nat.le_of_eq rfl) (hb hby d11_61) (fun _ _ => ⟨rfl, e22, (by decide : 3 + 0 ≤ _), (by decide : 7 + 0 ≤ _)⟩)
  dsimp only [Pt.U, Pt.locs, Pt.cells, Pt.slots] at X25 l25 y25 z25 st25 hQ25
  subst l25 y25 z25
  obtain ⟨rfl, N25q, K25, f25_0, f25_1, f25_2, f25_3⟩ := hQ25
  have KK25 : Keep h0 T25.heap [r1] := KK21.trans K25 (allS (Or.inr sz_b21_0) all0)
  have O25 := O21.keep K25 (allS g_b21_0 all0)
  have N25 := Fr.app N22 N25q
  obtain ⟨T26, X26, e26, st26⟩ := castY X25 hx hZ hown (w239 hw) rfl (Ins.self (P14.ext O25.2)) (g := (mkF m 66 #[.val (.ref r1), .val (.ref w_BOOLEAN), .val (.ref r2), .val (.ref b21_0), .unset] [(.ref w_x0)])) rfl rfl (hb hby d11_66)
  obtain ⟨_, T27, L27, X27, hQ27, st27⟩ := own_cV X26 hx hZ hown (notFace_of_selects (args := #[]) (mvT hZ (w244 hw))) (w241 hw) (w242 hw) (w244 hw) (w243 hw) (w31 hw) (w245 hw) (P14.ext O25.2) (rm32_0 l Z a0 hw w_x0 w_BOOLEAN T25.heap n0 O25 P16) e26 (hb hby d11_73) hml pd_52 [] [] (g := (mkF m 73 #[.val (.ref r1), .val (.ref w_BOOLEAN), .val (.ref r2), .val (.ref b21_0), .val (.ref w_x0)] [(.ref w_x0)]))
  obtain ⟨rfl, N27q, e27⟩ := hQ27
  have N27 := Fr.app N25 N27q
  obtain ⟨_, T28, L28, X28, hQ28, st28⟩ := own_cF X27 hx hZ hown (w156 hw) (w157 hw) (w158 hw) (w159 hw) (w160 hw) (w161 hw) (w162 hw) (w163 hw) (w138 hw) (w164 hw) (f21_0.keep K25) (rm20_2 l Z a0 hw b21_0 T25.heap n0 O25 f25_0 f25_2) e27 (hb hby d11_52) hml pd_5 [] [] (g := (mkF m 52 #[.val (.ref r1), .val (.ref w_BOOLEAN), .val (.ref r2), .val (.ref b21_0), .val (.ref w_x0)] [(.ref b21_0)]))
  obtain ⟨rfl, N28q, e28⟩ := hQ28
  have N28 := Fr.app N27 N28q
  have nz29 : r1 ≠ b21_0 := (ne_exa (fc17.keep K21) f21_0 (by decide))
  have fc30 := ((((((Fw4.keep K7 nin0).other W9 (Or.inr (slot_ne (Or.inr (w81 hw)) (Or.inr (w110 hw)) (by decide) (t := (.object sN12)) (t' := (.object sN3)) (by decide) (by decide)))).other W14 (Or.inr (slot_ne (Or.inr (w81 hw)) (Or.inr (w124 hw)) (by decide) (t := (.object sN12)) (t' := .int) (by decide) (by decide)))).other W16 (Or.inr (slot_ne (Or.inr (w81 hw)) (Or.inr (w126 hw)) (by decide) (t := (.object sN12)) (t' := (.object sN3)) (by decide) (by decide)))).keep K21 nin0).keep K25 (ninS nz29 nin0))
  have fc31 := (((Fw14.other W16 (Or.inr (slot_ne (Or.inr (w124 hw)) (Or.inr (w126 hw)) (by decide) (t := .int) (t' := (.object sN3)) (by decide) (by decide)))).keep K21 nin0).keep K25 (ninS nz29 nin0))
  have fc32 := ((Fw16.keep K21 nin0).keep K25 (ninS nz29 nin0))
  refine ⟨none, _, _, _, _, X28, (fun _ => rfl), ?_, by decide, by decide, fun fs hr => castTop (ef_11_RRR m r1 w_BOOLEAN r2) ?_⟩
  · show own_QB Z r1 w_BOOLEAN (1 : Int32) n0 h0 _ T28.heap _
    rw [e28]
    exact ⟨rfl, N28, KK25, fc30, fc31, fc32⟩
  · show Steps p.tables e below (s₁.setTop (mkF m 0 #[.val (.ref r1), .val (.ref w_BOOLEAN), .val (.ref r2), .unset, .unset] [])) _
    refine XS.aloadN X0.here hx rfl (hb hby d11_0) rfl rfl ?_
    refine st1 _ ?_
    refine XS.aloadN X1.here hx rfl (hb hby d11_4) rfl rfl ?_
    refine XS.aloadN X1.here hx rfl (hb hby d11_5) rfl rfl ?_
    refine st2 _ ?_
    refine st3 _ ?_
    refine st4 _ ?_
    refine XS.aloadN X4.here hx rfl (hb hby d11_15) rfl rfl ?_
    show Steps p.tables e below (T4.setTop (mkF m 16 #[.val (.ref r1), .val (.ref w_BOOLEAN), .val (.ref r2), .unset, .unset] [(.ref r1)])) _
    refine XS.aloadN X4.here hx rfl (hb hby d11_16) rfl rfl ?_
    refine st7 _ ?_
    refine st9 _ ?_
    refine XS.aloadN X9.here hx rfl (hb hby d11_23) rfl rfl ?_
    refine XS.aloadN X9.here hx rfl (hb hby d11_24) rfl rfl ?_
    refine st10 _ ?_
    refine st12 _ ?_
    refine st14 _ ?_
    show Steps p.tables e below (T14.setTop (mkF m 36 #[.val (.ref r1), .val (.ref w_BOOLEAN), .val (.ref r2), .unset, .unset] [])) _
    refine XS.aloadN X14.here hx rfl (hb hby d11_36) rfl rfl ?_
    refine XS.aconstNull X14.here hx rfl (hb hby d11_37) ?_
    refine st16 _ ?_
    refine XS.aloadN X16.here hx rfl (hb hby d11_41) rfl rfl ?_
    refine st19 _ ?_
    refine st21 _ ?_
    refine XS.astoreN X21.here hx rfl (hb hby d11_50) rfl rfl (l' := #[.val (.ref r1), .val (.ref w_BOOLEAN), .val (.ref r2), .val (.ref b21_0), .unset]) rfl ?_
    refine XS.aloadN X21.here hx rfl (hb hby d11_51) rfl rfl ?_
    show Steps p.tables e below (T21.setTop (mkF m 52 #[.val (.ref r1), .val (.ref w_BOOLEAN), .val (.ref r2), .val (.ref b21_0), .unset] [(.ref b21_0)])) _
    refine st22 _ ?_
    refine XS.ifNo X22.here hx rfl (hb hby d11_57) rfl (by decide) ?_
    refine XS.aloadN X22.here hx rfl (hb hby d11_60) rfl rfl ?_
    refine st25.trans ?_
    refine st26 _ ?_
    refine XS.astore X26.here hx rfl (hb hby d11_69) rfl rfl (l' := #[.val (.ref r1), .val (.ref w_BOOLEAN), .val (.ref r2), .val (.ref b21_0), .val (.ref w_x0)]) rfl ?_
    refine XS.aload X26.here hx rfl (hb hby d11_71) rfl rfl ?_
    refine st27 _ ?_
    show Steps p.tables e below (T27.setTop (mkF m 76 #[.val (.ref r1), .val (.ref w_BOOLEAN), .val (.ref r2), .val (.ref b21_0), .val (.ref w_x0)] [(.ref w_BOOLEAN)])) _
    refine XS.aloadN X27.here hx rfl (hb hby d11_76) rfl rfl ?_
    refine Jvm.RoadKit.acmp (g := (mkF m 77 #[.val (.ref r1), .val (.ref w_BOOLEAN), .val (.ref r2), .val (.ref b21_0), .val (.ref w_x0)] [(.ref w_BOOLEAN), (.ref w_BOOLEAN)])) X27 hx rfl rfl rfl (pc0 := 77) (pc' := 102) (same := true) rfl (hb hby d11_77) rfl (decide_eq_true rfl) (by decide) (by decide) ?_
    refine XS.goto X27.here hx rfl (pc0 := 102) (pc' := 51) rfl (hb hby d11_102) (by decide) (by decide) ?_
    refine XS.aloadN X27.here hx rfl (hb hby d11_51) rfl rfl ?_
    refine st28 _ ?_
    refine XS.ifYes X28.here hx rfl (pc0 := 57) (pc' := 105) rfl (hb hby d11_57) rfl (by decide) (by decide) (by decide) ?_
    exact X28.returnOut hx hret (hb hby d11_105) hr
theorem rm15_2 (l : Launch) (Z : State) (a0 : Array Value) (hw : own_HW a0 Z) (r1 : Addr) (h0 : Heap) (n0 : Nat) (O0 : Old Z n0 h0) (P1 : Fld Z h0 r1 sN0 "size" "I" (.int (2 : Int32))) :
    own_Ct l Z yN13 jdk_38_method_9_code 1 (some .boolean) ({ frames := 0, cells := 0, slots := 0, locals := 0 } : Room) #[(.ref r1)] h0 (own_QP (some (.int (0 : Int32))) n0 h0) := by
  refine own_enter (own := sN0) rfl (plainFor_of_name pn_3) ?_
  intro p e s m below meth c s₁ X0 hx hby hml hown hnm hret hZ e0
  have N0 := Fr.nil n0
  obtain ⟨T1, X1, e1, st1⟩ := getF X0 hx hZ hown (host := "") (Or.inl (w40 hw)) Via.refl e0 P1 (g := (mkF m 1 #[.val (.ref r1)] [(.ref r1)])) rfl rfl (hb hby d15_1)
  refine ⟨(some (.int (0 : Int32))), _, _, _, _, X1, (fun h => nomatch h), ?_, by decide, by decide, fun fs hr => castTop (ef_15_R m r1) ?_⟩
  · show own_QP (some (.int (0 : Int32))) n0 h0 _ T1.heap _
    rw [e1]
    exact ⟨rfl, N0, rfl⟩
  · show Steps p.tables e below (s₁.setTop (mkF m 0 #[.val (.ref r1)] [])) _
    refine XS.aloadN X0.here hx rfl (hb hby d15_0) rfl rfl ?_
    refine st1 _ ?_
    refine XS.ifYes X1.here hx rfl (pc0 := 4) (pc' := 11) rfl (hb hby d15_4) rfl (by decide) (by decide) (by decide) ?_
    refine XS.iconst X1.here hx rfl (hb hby d15_11) ?_
    exact retN X1 hx (t := .boolean) hret (by simp) (hb hby d15_12) hr
theorem rm24_1 (l : Launch) (Z : State) (a0 : Array Value) (hw : ∀ d ∈ tables_1, d.before a0 Z = true)  (h0 : Heap) (n0 : Nat) (O0 : Old Z n0 h0)  :
    MetFree l yN4 (head1 [Jvm.Cond.code yN4 jdk_29_method_69_code 2 (some .int)] ({ frames := 0, cells := 0, slots := 0, locals := 0 } : Room)) (fun a U => a = #[(.int (10 : Int32)), (.int (2 : Int32))] ∧ Z.Warmed39 U.vm ∧ U.heap = h0) (fun _ _ _ _ _ => True) (fun _ U o U' => ∃ v L, o = .returned v ∧ own_QP (some (.int (2 : Int32))) n0 h0 v U'.heap L ∧ FrameEnd U o U' L ({ frames := 0, cells := 0, slots := 0, locals := 0 } : Room).cells ({ frames := 0, cells := 0, slots := 0, locals := 0 } : Room).slots) := by
  refine MetFree.of_bodySF (Jvm.Free.JP.mathPlain rfl (by decide +kernel)) hisR ?_
  intro p e s m args below meth c s₁ Bd hml0 hP hK
  obtain ⟨rfl, hZ, hh⟩ := hP
  have hx := Bd.exec
  have hby := Bd.bytes
  have hml : c.maxLocals = 2 := hml0
  have hown : s.vm.findClass sN27 = some m.cls := findClass_of_methodNamed Bd.named
  have hnm := (name_of_methodNamed Bd.named Bd.method).1
  have X0 : Stand p l e ({ frames := 0, cells := 0, slots := 0, locals := 0 } : Room) s m #[(.int (10 : Int32)), (.int (2 : Int32))] below meth c s₁ [] 0 0 := Stand.of_body Bd
  have e0 : s₁.heap = h0 := by rw [← hh, Bd.state]; rfl
  have N0 := Fr.nil n0
  have pre0 : ∀ t, Steps p.tables e below (s₁.setTop (mkF m 0 #[.val (.int (10 : Int32)), .val (.int (2 : Int32))] [])) t → Steps p.tables e below (s₁.setTop (entryFrame m #[(.int (10 : Int32)), (.int (2 : Int32))] 2)) t := fun t k => castTop (ef_24_II m (10 : Int32) (2 : Int32)) k
  obtain ⟨fs, hr, hrun, hended, hW, hsame⟩ := X0.leave (v := (some (.int (2 : Int32)))) (fun h => by rw [Bd.returns] at h; cases h)
  refine ⟨_, _, pre0 _ ?_, hrun, hended, _, _, rfl, ?_, ⟨_, rfl⟩, hW, hsame.mono (by decide) (by decide)⟩
  · show Steps p.tables e below (s₁.setTop (mkF m 0 #[.val (.int (10 : Int32)), .val (.int (2 : Int32))] [])) _
    refine XS.iloadN X0.here hx rfl (hb hby d24_0) rfl ?_
    refine XS.iloadN X0.here hx rfl (hb hby d24_1) rfl ?_
    refine XS.icmpYes X0.here hx rfl (pc0 := 2) (pc' := 9) rfl (hb hby d24_2) rfl (by decide) (by decide) (by decide) ?_
    refine XS.iloadN X0.here hx rfl (hb hby d24_9) rfl ?_
    exact retI X0 hx Bd.returns (hb hby d24_10) hr
  · show own_QP (some (.int (2 : Int32))) n0 h0 _ s₁.heap _
    rw [e0]
    exact ⟨rfl, N0, rfl⟩
def Q_rm23_1 (Z : State) (r1 : Addr) (w_MIR : Addr) (w_x0 : Addr) (w_x1 : Addr) (k_r1 : ClassId) (n0 : Nat) (h0 : Heap) (v : Option Value) (h : Heap) (L : List Loc) : Prop := ∃ b2 : Addr, ∃ k2 : ClassId, v = (some (.ref b2)) ∧ Fr n0 L ∧ Keep h0 h [] ∧ h0.size ≤ b2 ∧ Exa Z h b2 sN4 ∧ Arv Z h b2 k2 (.object sN1) (2 : Int32) [(.ref w_x0), (.ref w_x1)] .null ∧ Ovr Z k2 sN1
theorem rm23_1 (l : Launch) (Z : State) (a0 : Array Value) (hw : own_HW a0 Z) (r1 : Addr) (w_MIR : Addr) (w_x0 : Addr) (w_x1 : Addr) (k_r1 : ClassId) (h0 : Heap) (n0 : Nat) (O0 : Old Z n0 h0) (P1 : Mir Z sN4 w_MIR) (P2 : Arv Z h0 r1 k_r1 (.object sN1) (10 : Int32) [(.ref w_x0), (.ref w_x1), .null, .null, .null, .null, .null, .null, .null, .null] .null) (P3 : Exa Z Z.heap w_x1 sN9) (P4 : Exa Z Z.heap w_x0 sN9) :
    own_Ct l Z yN21 jdk_65_method_120_code 4 (some (.array (.object sN1))) ({ frames := 1, cells := 1, slots := 2, locals := 60 } : Room) #[(.ref r1), (.int (2 : Int32)), (.ref w_MIR)] h0 (Q_rm23_1 Z r1 w_MIR w_x0 w_x1 k_r1 n0 h0) := by
  refine own_enter (own := sN20) rfl (plainFor_of_name pn_27) ?_
  intro p e s m below meth c s₁ X0 hx hby hml hown hnm hret hZ e0
  have N0 := Fr.nil n0
  obtain ⟨T1, X1, e1, st1⟩ := own_ldcM X0 hx hZ hown (w186 hw) e0 P1 (g := (mkF m 1 #[.val (.ref r1), .val (.int (2 : Int32)), .val (.ref w_MIR), .unset] [(.ref w_MIR)])) rfl (hb hby d23_1)
  obtain ⟨T2, h2, k2, X2, e2, E2, A2, Ea2, Ov2, st2⟩ := newRE X1 hx hZ hown (w187 hw) (w62 hw) e1 (g := (mkF m 7 #[.val (.ref r1), .val (.int (2 : Int32)), .val (.ref w_MIR), .unset] [(.int (2 : Int32))])) rfl (hb hby d23_7) rfl (by decide) (cap := 2) (by decide) (by decide) (by decide) (by decide) (ad := sN4) (by decide)
  obtain ⟨b2, gq2⟩ : ∃ z, z = h0.size := ⟨_, rfl⟩
  rw [← gq2] at A2 st2 Ea2
  have g_b2 : n0 ≤ b2 := Nat.le_trans ((O0.1 ▸ O0.2.1) : n0 ≤ h0.size) (Nat.le_of_eq gq2.symm)
  have sz_b2 : h0.size ≤ b2 := Nat.le_trans (Keep.refl h0 []).1 (Nat.le_of_eq gq2.symm)
  have KK2 : Keep h0 h2 [] := (Keep.refl h0 []).ext E2
  have O2 := O0.ext E2
  have V2 : Arv Z h2 b2 k2 (.object sN1) (2 : Int32) [.null, .null] .null := (Arv.new A2 (by decide)).pad (pad_rep [] .null 2)
  obtain ⟨cl3, Ar3, -, Sr3, Nr3, -, -⟩ := id (P2.ext E2)
  obtain ⟨_, T4, L4, X4, hQ4, st4⟩ := own_cS X2 hx hZ hown (w188 hw) (w189 hw) (w59 hw) (w190 hw) (rm24_1 l Z a0 hw  h2 n0 O2 ) e2 (hb hby d23_32) hml pd_26 [(.int (10 : Int32)), (.int (2 : Int32))] [(.int (0 : Int32)), (.ref b2), (.int (0 : Int32)), (.ref r1)] (g := (mkF m 32 #[.val (.ref r1), .val (.int (2 : Int32)), .val (.ref w_MIR), .val (.ref b2)] [(.int (2 : Int32)), (.int (10 : Int32)), (.int (0 : Int32)), (.ref b2), (.int (0 : Int32)), (.ref r1)]))
  obtain ⟨rfl, N4q, e4⟩ := hQ4
  have N4 := Fr.app N0 N4q
  obtain ⟨cb5, Ab5, qb5, -⟩ := id V2
  obtain ⟨T6, h6, L6, X6, e6, N6, K6, V6, st6⟩ := cpA X4 hx hZ hown (w191 hw) (w194 hw) (w192 hw) (w193 hw) e4 (us := [(.ref w_x0), (.ref w_x1)]) (P2.ext E2) V2 (Or.inr ⟨rfl, rfl, ⟨Sto.ofV Ab5 qb5 Ov2 (Ins.of_exa (P4.ext O2.2) (w63 hw)), ⟨Sto.ofV Ab5 qb5 Ov2 (Ins.of_exa (P3.ext O2.2) (w63 hw)), trivial⟩⟩⟩) (by decide) (by decide) (by decide) (by decide) (by decide) rfl (by decide) N4 g_b2 (g := (mkF m 35 #[.val (.ref r1), .val (.int (2 : Int32)), .val (.ref w_MIR), .val (.ref b2)] [(.int (2 : Int32)), (.int (0 : Int32)), (.ref b2), (.int (0 : Int32)), (.ref r1)])) rfl (by rw [hml]; rfl) rfl (hb hby d23_35) (by decide) (W := 0) (by show 2 * 0 + _ ≤ _; exact Nat.le_of_eq rfl) (by decide)
  have KK6 : Keep h0 h6 [] := KK2.trans K6 (allS (Or.inr sz_b2) all0)
  have O6 := O2.keep K6 (allS g_b2 all0)
  refine ⟨(some (.ref b2)), _, _, _, _, X6, (fun h => nomatch h), ?_, by decide, by decide, fun fs hr => castTop (ef_23_RIR m r1 (2 : Int32) w_MIR) ?_⟩
  · show Q_rm23_1 Z r1 w_MIR w_x0 w_x1 k_r1 n0 h0 _ T6.heap _
    rw [e6]
    exact ⟨b2, k2, rfl, N6, KK6, sz_b2, (Ea2.keep K6), V6, Ov2⟩
  · show Steps p.tables e below (s₁.setTop (mkF m 0 #[.val (.ref r1), .val (.int (2 : Int32)), .val (.ref w_MIR), .unset] [])) _
    refine XS.aloadN X0.here hx rfl (hb hby d23_0) rfl rfl ?_
    refine st1 _ ?_
    refine Jvm.RoadKit.acmp (g := (mkF m 3 #[.val (.ref r1), .val (.int (2 : Int32)), .val (.ref w_MIR), .unset] [(.ref w_MIR), (.ref w_MIR)])) X1 hx rfl rfl rfl (pc0 := 3) (pc' := 6) (same := true) rfl (hb hby d23_3) rfl (decide_eq_true rfl) (by decide) (by decide) ?_
    refine XS.iloadN X1.here hx rfl (hb hby d23_6) rfl ?_
    refine st2 _ ?_
    refine XS.goto X2.here hx rfl (pc0 := 10) (pc' := 24) rfl (hb hby d23_10) (by decide) (by decide) ?_
    refine XS.astoreN X2.here hx rfl (hb hby d23_24) rfl rfl (l' := #[.val (.ref r1), .val (.int (2 : Int32)), .val (.ref w_MIR), .val (.ref b2)]) rfl ?_
    refine XS.aloadN X2.here hx rfl (hb hby d23_25) rfl rfl ?_
    show Steps p.tables e below (T2.setTop (mkF m 26 #[.val (.ref r1), .val (.int (2 : Int32)), .val (.ref w_MIR), .val (.ref b2)] [(.ref r1)])) _
    refine XS.iconst X2.here hx rfl (hb hby d23_26) ?_
    refine XS.aloadN X2.here hx rfl (hb hby d23_27) rfl rfl ?_
    refine XS.iconst X2.here hx rfl (hb hby d23_28) ?_
    refine XS.aloadN X2.here hx rfl (hb hby d23_29) rfl rfl ?_
    refine X2.arraylength hx (by rw [e2]; exact Ar3.1) (State.isArrayOf_alike hZ.alike Ar3.2.1) (g := (mkF m 30 #[.val (.ref r1), .val (.int (2 : Int32)), .val (.ref w_MIR), .val (.ref b2)] [(.ref r1), (.int (0 : Int32)), (.ref b2), (.int (0 : Int32)), (.ref r1)])) rfl rfl (hb hby d23_30) _ ?_
    rw [len_of Sr3 Nr3]
    refine XS.iloadN X2.here hx rfl (hb hby d23_31) rfl ?_
    refine st4 _ ?_
    refine st6 _ ?_
    show Steps p.tables e below (T6.setTop (mkF m 38 #[.val (.ref r1), .val (.int (2 : Int32)), .val (.ref w_MIR), .val (.ref b2)] [])) _
    refine XS.aloadN X6.here hx rfl (hb hby d23_38) rfl rfl ?_
    exact retA X6 hx hret rfl rfl rfl (hb hby d23_39) hr
def Q_rm22_1 (Z : State) (r1 : Addr) (w_MIR : Addr) (w_x0 : Addr) (w_x1 : Addr) (k_r1 : ClassId) (n0 : Nat) (h0 : Heap) (v : Option Value) (h : Heap) (L : List Loc) : Prop := ∃ b2_0 : Addr, ∃ kc2_0 : ClassId, v = (some (.ref b2_0)) ∧ Fr n0 L ∧ Keep h0 h [] ∧ h0.size ≤ b2_0 ∧ Exa Z h b2_0 sN4 ∧ Arv Z h b2_0 kc2_0 (.object sN1) (2 : Int32) [(.ref w_x0), (.ref w_x1)] .null ∧ Ovr Z kc2_0 sN1
theorem rm22_1 (l : Launch) (Z : State) (a0 : Array Value) (hw : own_HW a0 Z) (r1 : Addr) (w_MIR : Addr) (w_x0 : Addr) (w_x1 : Addr) (k_r1 : ClassId) (h0 : Heap) (n0 : Nat) (O0 : Old Z n0 h0) (P1 : Exa Z h0 r1 sN4) (P2 : Mir Z sN4 w_MIR) (P3 : Arv Z h0 r1 k_r1 (.object sN1) (10 : Int32) [(.ref w_x0), (.ref w_x1), .null, .null, .null, .null, .null, .null, .null, .null] .null) (P4 : Exa Z Z.heap w_x1 sN9) (P5 : Exa Z Z.heap w_x0 sN9) :
    own_Ct l Z yN20 jdk_65_method_119_code 2 (some (.array (.object sN1))) ({ frames := 2, cells := 1, slots := 2, locals := 75 } : Room) #[(.ref r1), (.int (2 : Int32))] h0 (Q_rm22_1 Z r1 w_MIR w_x0 w_x1 k_r1 n0 h0) := by
  refine own_enter (own := sN20) rfl (plainFor_of_name pn_27) ?_
  intro p e s m below meth c s₁ X0 hx hby hml hown hnm hret hZ e0
  have N0 := Fr.nil n0
  obtain ⟨T1, X1, e1, st1⟩ := gcls X0 hx hZ hown (w177 hw) (w178 hw) (w94 hw) (w180 hw) (w179 hw) (w181 hw) e0 P1 P2 (g := (mkF m 3 #[.val (.ref r1), .val (.int (2 : Int32))] [(.ref r1), (.int (2 : Int32)), (.ref r1)])) rfl (by rw [hml]; rfl) rfl (hb hby d22_3) (by decide) (W := 2) (by show 2 * 0 + _ ≤ _; exact Nat.le_of_eq rfl) (by decide)
  obtain ⟨_, T2, L2, X2, hQ2, st2⟩ := own_cS X1 hx hZ hown (w183 hw) (w184 hw) (w175 hw) (w185 hw) (rm23_1 l Z a0 hw r1 w_MIR w_x0 w_x1 k_r1 h0 n0 O0 P2 P3 P4 P5) e1 (hb hby d22_6) hml pd_29 [(.ref r1), (.int (2 : Int32)), (.ref w_MIR)] [] (g := (mkF m 6 #[.val (.ref r1), .val (.int (2 : Int32))] [(.ref w_MIR), (.int (2 : Int32)), (.ref r1)]))
  obtain ⟨b2_0, kc2_0, rfl, N2q, K2, ge_b2_0, f2_0, f2_1, ov2_1⟩ := hQ2
  have g_b2_0 : n0 ≤ b2_0 := Nat.le_trans ((O0.1 ▸ O0.2.1) : n0 ≤ h0.size) ge_b2_0
  have sz_b2_0 : h0.size ≤ b2_0 := Nat.le_trans (Keep.refl h0 []).1 ge_b2_0
  have KK2 : Keep h0 T2.heap [] := (Keep.refl h0 []).trans K2 all0
  have O2 := O0.keep K2 all0
  have N2 := Fr.app N0 N2q
  refine ⟨(some (.ref b2_0)), _, _, _, _, X2, (fun h => nomatch h), ?_, by decide, by decide, fun fs hr => castTop (ef_22_RI m r1 (2 : Int32)) ?_⟩
  · show Q_rm22_1 Z r1 w_MIR w_x0 w_x1 k_r1 n0 h0 _ T2.heap _
    exact ⟨b2_0, kc2_0, rfl, N2, KK2, sz_b2_0, f2_0, f2_1, ov2_1⟩
  · show Steps p.tables e below (s₁.setTop (mkF m 0 #[.val (.ref r1), .val (.int (2 : Int32))] [])) _
    refine XS.aloadN X0.here hx rfl (hb hby d22_0) rfl rfl ?_
    refine XS.iloadN X0.here hx rfl (hb hby d22_1) rfl ?_
    refine XS.aloadN X0.here hx rfl (hb hby d22_2) rfl rfl ?_
    refine st1 _ ?_
    refine st2 _ ?_
    exact retA X2 hx hret rfl rfl rfl (hb hby d22_9) hr
def Q_rm21_1 (Z : State) (r1 : Addr) (r2 : Addr) (w_MIR : Addr) (w_x0 : Addr) (w_x1 : Addr) (k_r2 : ClassId) (n0 : Nat) (h0 : Heap) (v : Option Value) (h : Heap) (L : List Loc) : Prop := ∃ b3_0 : Addr, ∃ kc3_0 : ClassId, v = (some (.ref b3_0)) ∧ Fr n0 L ∧ Keep h0 h [] ∧ h0.size ≤ b3_0 ∧ Exa Z h b3_0 sN4 ∧ Arv Z h b3_0 kc3_0 (.object sN1) (2 : Int32) [(.ref w_x0), (.ref w_x1)] .null ∧ Ovr Z kc3_0 sN1
theorem rm21_1 (l : Launch) (Z : State) (a0 : Array Value) (hw : own_HW a0 Z) (r1 : Addr) (r2 : Addr) (w_MIR : Addr) (w_x0 : Addr) (w_x1 : Addr) (k_r2 : ClassId) (h0 : Heap) (n0 : Nat) (O0 : Old Z n0 h0) (P1 : Fld Z h0 r1 sN0 "elementData" sN4 (.ref r2)) (P2 : Fld Z h0 r1 sN0 "size" "I" (.int (2 : Int32))) (P3 : Exa Z h0 r2 sN4) (P4 : Mir Z sN4 w_MIR) (P5 : Arv Z h0 r2 k_r2 (.object sN1) (10 : Int32) [(.ref w_x0), (.ref w_x1), .null, .null, .null, .null, .null, .null, .null, .null] .null) (P6 : Exa Z Z.heap w_x1 sN9) (P7 : Exa Z Z.heap w_x0 sN9) :
    own_Ct l Z yN14 jdk_38_method_16_code 1 (some (.array (.object sN1))) ({ frames := 3, cells := 1, slots := 2, locals := 88 } : Room) #[(.ref r1)] h0 (Q_rm21_1 Z r1 r2 w_MIR w_x0 w_x1 k_r2 n0 h0) := by
  refine own_enter (own := sN0) rfl (plainFor_of_name pn_3) ?_
  intro p e s m below meth c s₁ X0 hx hby hml hown hnm hret hZ e0
  have N0 := Fr.nil n0
  obtain ⟨T1, X1, e1, st1⟩ := getF X0 hx hZ hown (host := "") (Or.inl (w24 hw)) Via.refl e0 P1 (g := (mkF m 1 #[.val (.ref r1)] [(.ref r1)])) rfl rfl (hb hby d21_1)
  obtain ⟨T2, X2, e2, st2⟩ := getF X1 hx hZ hown (host := "") (Or.inl (w40 hw)) Via.refl e1 P2 (g := (mkF m 5 #[.val (.ref r1)] [(.ref r1), (.ref r2)])) rfl rfl (hb hby d21_5)
  obtain ⟨_, T3, L3, X3, hQ3, st3⟩ := own_cS X2 hx hZ hown (w173 hw) (w174 hw) (w175 hw) (w176 hw) (rm22_1 l Z a0 hw r2 w_MIR w_x0 w_x1 k_r2 h0 n0 O0 P3 P4 P5 P6 P7) e2 (hb hby d21_8) hml pd_31 [(.ref r2), (.int (2 : Int32))] [] (g := (mkF m 8 #[.val (.ref r1)] [(.int (2 : Int32)), (.ref r2)]))
  obtain ⟨b3_0, kc3_0, rfl, N3q, K3, ge_b3_0, f3_0, f3_1, ov3_1⟩ := hQ3
  have g_b3_0 : n0 ≤ b3_0 := Nat.le_trans ((O0.1 ▸ O0.2.1) : n0 ≤ h0.size) ge_b3_0
  have sz_b3_0 : h0.size ≤ b3_0 := Nat.le_trans (Keep.refl h0 []).1 ge_b3_0
  have KK3 : Keep h0 T3.heap [] := (Keep.refl h0 []).trans K3 all0
  have O3 := O0.keep K3 all0
  have N3 := Fr.app N0 N3q
  refine ⟨(some (.ref b3_0)), _, _, _, _, X3, (fun h => nomatch h), ?_, by decide, by decide, fun fs hr => castTop (ef_21_R m r1) ?_⟩
  · show Q_rm21_1 Z r1 r2 w_MIR w_x0 w_x1 k_r2 n0 h0 _ T3.heap _
    exact ⟨b3_0, kc3_0, rfl, N3, KK3, sz_b3_0, f3_0, f3_1, ov3_1⟩
  · show Steps p.tables e below (s₁.setTop (mkF m 0 #[.val (.ref r1)] [])) _
    refine XS.aloadN X0.here hx rfl (hb hby d21_0) rfl rfl ?_
    refine st1 _ ?_
    refine XS.aloadN X1.here hx rfl (hb hby d21_4) rfl rfl ?_
    refine st2 _ ?_
    refine st3 _ ?_
    exact retA X3 hx hret rfl rfl rfl (hb hby d21_11) hr
theorem rm12_2 (l : Launch) (Z : State) (a0 : Array Value) (hw : own_HW a0 Z) (w_x1 : Addr) (h0 : Heap) (n0 : Nat) (O0 : Old Z n0 h0)  :
    own_Ct l Z yN5 jdk_31_method_10_code 1 (some (.object sN1)) ({ frames := 0, cells := 0, slots := 0, locals := 0 } : Room) #[(.ref w_x1)] h0 (own_QP (some (.ref w_x1)) n0 h0) := by
  refine own_enter (own := sN25) rfl (plainFor_of_name pn_0) ?_
  intro p e s m below meth c s₁ X0 hx hby hml hown hnm hret hZ e0
  have N0 := Fr.nil n0
  refine ⟨(some (.ref w_x1)), _, _, _, _, X0, (fun h => nomatch h), ?_, by decide, by decide, fun fs hr => castTop (ef_12_R m w_x1) ?_⟩
  · show own_QP (some (.ref w_x1)) n0 h0 _ s₁.heap _
    rw [e0]
    exact ⟨rfl, N0, rfl⟩
  · show Steps p.tables e below (s₁.setTop (mkF m 0 #[.val (.ref w_x1)] [])) _
    refine XS.aloadN X0.here hx rfl (hb hby d12_0) rfl rfl ?_
    refine XS.ifnonnullYes X0.here hx rfl (pc0 := 1) (pc' := 12) rfl (hb hby d12_1) rfl (by decide) (by decide) ?_
    refine XS.aloadN X0.here hx rfl (hb hby d12_12) rfl rfl ?_
    exact retA X0 hx hret rfl rfl rfl (hb hby d12_13) hr
def Q_rm49_0 (Z : State) (r1 : Addr) (w_x0 : Addr) (w_x1 : Addr) (n0 : Nat) (h0 : Heap) (v : Option Value) (h : Heap) (L : List Loc) : Prop := v = none ∧ Fr n0 L ∧ Keep h0 h [r1] ∧ Fld Z h r1 sN6 "e0" sN11 (.ref w_x0) ∧ Fld Z h r1 sN6 "e1" sN11 (.ref w_x1)
theorem rm49_0 (l : Launch) (Z : State) (a0 : Array Value) (hw : own_HW a0 Z) (r1 : Addr) (w_x0 : Addr) (w_x1 : Addr) (h0 : Heap) (n0 : Nat) (O0 : Old Z n0 h0) (P1 : Exa Z h0 r1 sN6) (P2 : Fld Z h0 r1 sN6 "e0" sN11 .null) (P3 : Fld Z h0 r1 sN6 "e1" sN11 .null) (P4 : n0 ≤ r1) :
    own_Ct l Z yN42 jdk_44_method_2_code 3 none ({ frames := 4, cells := 0, slots := 0, locals := 48 } : Room) #[(.ref r1), (.ref w_x0), (.ref w_x1)] h0 (Q_rm49_0 Z r1 w_x0 w_x1 n0 h0) := by
  refine own_enter (own := sN6) rfl (plainFor_of_name pn_40) ?_
  intro p e s m below meth c s₁ X0 hx hby hml hown hnm hret hZ e0
  have N0 := Fr.nil n0
  obtain ⟨_, T1, L1, X1, hQ1, st1⟩ := own_cI X0 hx hZ hown rfl (w343 hw) (w209 hw) (w134 hw) (w212 hw) (rm28_0 l Z a0 hw r1 h0 n0 O0 ) e0 (hb hby d49_1) hml pd_36 [] [] (g := (mkF m 1 #[.val (.ref r1), .val (.ref w_x0), .val (.ref w_x1)] [(.ref r1)]))
  obtain ⟨rfl, N1q, e1⟩ := hQ1
  have N1 := Fr.app N0 N1q
  obtain ⟨_, T2, L2, X2, hQ2, st2⟩ := own_cS X1 hx hZ hown (w347 hw) (w75 hw) (w76 hw) (w77 hw) (rm12_1 l Z a0 hw w_x0 h0 n0 O0 ) e1 (hb hby d49_6) hml pd_2 [(.ref w_x0)] [(.ref r1)] (g := (mkF m 6 #[.val (.ref r1), .val (.ref w_x0), .val (.ref w_x1)] [(.ref w_x0), (.ref r1)]))
  obtain ⟨rfl, N2q, e2⟩ := hQ2
  have N2 := Fr.app N1 N2q
  obtain ⟨T3, h3, X3, e3, W3, st3⟩ := putF X2 hx hZ hown (host := "") (Or.inl (w348 hw)) Via.refl e2 P2 P1 (Or.inr ⟨(w349 hw), rfl, hnm⟩) (w337 hw) (ty := (.object sN1)) (by decide) rfl rfl (g := (mkF m 9 #[.val (.ref r1), .val (.ref w_x0), .val (.ref w_x1)] [(.ref w_x0), (.ref r1)])) rfl rfl (hb hby d49_9)
  have Fw3 := P2.same W3
  have KK3 : Keep h0 h3 [r1] := (Keep.refl h0 [r1]).wr W3 (Or.inl (List.mem_of_getElem? (i := 0) rfl))
  have O3 := O0.wr W3 P4
  have N3 := Fr.snoc X3 N2 P4
  obtain ⟨_, T4, L4, X4, hQ4, st4⟩ := own_cS X3 hx hZ hown (w347 hw) (w75 hw) (w76 hw) (w77 hw) (rm12_2 l Z a0 hw w_x1 h3 n0 O3 ) e3 (hb hby d49_14) hml pd_2 [(.ref w_x1)] [(.ref r1)] (g := (mkF m 14 #[.val (.ref r1), .val (.ref w_x0), .val (.ref w_x1)] [(.ref w_x1), (.ref r1)]))
  obtain ⟨rfl, N4q, e4⟩ := hQ4
  have N4 := Fr.app N3 N4q
  have fc5 := (P3.other W3 (Or.inr (slot_ne (Or.inr (w352 hw)) (Or.inr (w349 hw)) (by decide) (t := (.object sN1)) (t' := (.object sN1)) (by decide) (by decide))))
  obtain ⟨T6, h6, X6, e6, W6, st6⟩ := putF X4 hx hZ hown (host := "") (Or.inl (w351 hw)) Via.refl e4 fc5 (P1.wr W3) (Or.inr ⟨(w352 hw), rfl, hnm⟩) (w337 hw) (ty := (.object sN1)) (by decide) rfl rfl (g := (mkF m 17 #[.val (.ref r1), .val (.ref w_x0), .val (.ref w_x1)] [(.ref w_x1), (.ref r1)])) rfl rfl (hb hby d49_17)
  have Fw6 := fc5.same W6
  have KK6 : Keep h0 h6 [r1] := KK3.wr W6 (Or.inl (List.mem_of_getElem? (i := 0) rfl))
  have O6 := O3.wr W6 P4
  have N6 := Fr.snoc X6 N4 P4
  have fc7 := (Fw3.other W6 (Or.inr (slot_ne (Or.inr (w349 hw)) (Or.inr (w352 hw)) (by decide) (t := (.object sN1)) (t' := (.object sN1)) (by decide) (by decide))))
  refine ⟨none, _, _, _, _, X6, (fun _ => rfl), ?_, by decide, by decide, fun fs hr => castTop (ef_49_RRR m r1 w_x0 w_x1) ?_⟩
  · show Q_rm49_0 Z r1 w_x0 w_x1 n0 h0 _ T6.heap _
    rw [e6]
    exact ⟨rfl, N6, KK6, fc7, Fw6⟩
  · show Steps p.tables e below (s₁.setTop (mkF m 0 #[.val (.ref r1), .val (.ref w_x0), .val (.ref w_x1)] [])) _
    refine XS.aloadN X0.here hx rfl (hb hby d49_0) rfl rfl ?_
    refine st1 _ ?_
    refine XS.aloadN X1.here hx rfl (hb hby d49_4) rfl rfl ?_
    refine XS.aloadN X1.here hx rfl (hb hby d49_5) rfl rfl ?_
    refine st2 _ ?_
    refine st3 _ ?_
    refine XS.aloadN X3.here hx rfl (hb hby d49_12) rfl rfl ?_
    refine XS.aloadN X3.here hx rfl (hb hby d49_13) rfl rfl ?_
    show Steps p.tables e below (T3.setTop (mkF m 14 #[.val (.ref r1), .val (.ref w_x0), .val (.ref w_x1)] [(.ref w_x1), (.ref r1)])) _
    refine st4 _ ?_
    refine st6 _ ?_
    exact X6.returnOut hx hret (hb hby d49_20) hr
def Q_rm25_1 (Z : State) (r1 : Addr) (w_x0 : Addr) (w_x1 : Addr) (k_r1 : ClassId) (n0 : Nat) (h0 : Heap) (v : Option Value) (h : Heap) (L : List Loc) : Prop := ∃ b2 : Addr, v = (some (.ref b2)) ∧ Fr n0 L ∧ Keep h0 h [] ∧ h0.size ≤ b2 ∧ Exa Z h b2 sN6 ∧ Fld Z h b2 sN6 "e0" sN11 (.ref w_x0) ∧ Fld Z h b2 sN6 "e1" sN11 (.ref w_x1)
theorem rm25_1 (l : Launch) (Z : State) (a0 : Array Value) (hw : own_HW a0 Z) (r1 : Addr) (w_x0 : Addr) (w_x1 : Addr) (k_r1 : ClassId) (h0 : Heap) (n0 : Nat) (O0 : Old Z n0 h0) (P1 : Ovr Z k_r1 sN1) (P2 : Arv Z h0 r1 k_r1 (.object sN1) (2 : Int32) [(.ref w_x0), (.ref w_x1)] .null) :
    own_Ct l Z yN22 jdk_40_method_47_code 2 (some (.object sN3)) ({ frames := 5, cells := 1, slots := 2, locals := 63 } : Room) #[(.ref r1)] h0 (Q_rm25_1 Z r1 w_x0 w_x1 k_r1 n0 h0) := by
  refine own_enter (own := sN3) rfl (plainFor_of_name pn_6) ?_
  intro p e s m below meth c s₁ X0 hx hby hml hown hnm hret hZ e0
  have N0 := Fr.nil n0
  obtain ⟨cl1, Ar1, -, Sr1, Nr1, -, -⟩ := id P2
  obtain ⟨T2, h2, X2, e2, E2, A2, D2, -, st2⟩ := newO X0 hx hZ hown (w336 hw) (w337 hw) (w338 hw) e0 (g := (mkF m 45 #[.val (.ref r1), .unset] [])) rfl (hb hby d25_45) (by decide) (by decide)
  obtain ⟨b2, gq2⟩ : ∃ z, z = h0.size := ⟨_, rfl⟩
  rw [← gq2] at A2 D2 st2
  have g_b2 : n0 ≤ b2 := Nat.le_trans ((O0.1 ▸ O0.2.1) : n0 ≤ h0.size) (Nat.le_of_eq gq2.symm)
  have sz_b2 : h0.size ≤ b2 := Nat.le_trans (Keep.refl h0 []).1 (Nat.le_of_eq gq2.symm)
  have KK2 : Keep h0 h2 [] := (Keep.refl h0 []).ext E2
  have O2 := O0.ext E2
  have F_e0_b2 : Fld Z h2 b2 sN6 "e0" sN11 .null := D2 (Or.inr (w349 hw)) (ty := (.object sN1)) (by decide)
  have F_e1_b2 : Fld Z h2 b2 sN6 "e1" sN11 .null := D2 (Or.inr (w352 hw)) (ty := (.object sN1)) (by decide)
  obtain ⟨cl3, Ar3, -, Sr3, -, Hr3, -⟩ := id (P2.ext E2)
  have hin3 : ¬ ((0 : Int32) < 0 ∨ cl3.slots.size ≤ ((0 : Int32) : Int32).toNatClampNeg) := inb_of Sr3 ⟨by decide, by decide⟩
  have hat3 : cl3.slots[((0 : Int32) : Int32).toNatClampNeg]? = some (.ref w_x0) := Has.at Hr3 hin3 rfl
  obtain ⟨cl4, Ar4, -, Sr4, -, Hr4, -⟩ := id (P2.ext E2)
  have hin4 : ¬ ((1 : Int32) < 0 ∨ cl4.slots.size ≤ ((1 : Int32) : Int32).toNatClampNeg) := inb_of Sr4 ⟨by decide, by decide⟩
  have hat4 : cl4.slots[((1 : Int32) : Int32).toNatClampNeg]? = some (.ref w_x1) := Has.at Hr4 hin4 rfl
  obtain ⟨_, T5, L5, X5, hQ5, st5⟩ := own_cI X2 hx hZ hown rfl (w367 hw) (w368 hw) (w338 hw) (w369 hw) (rm49_0 l Z a0 hw b2 w_x0 w_x1 h2 n0 O2 A2 F_e0_b2 F_e1_b2 g_b2) e2 (hb hby d25_55) hml pd_54 [(.ref w_x0), (.ref w_x1)] [(.ref b2)] (g := (mkF m 55 #[.val (.ref r1), .unset] [(.ref w_x1), (.ref w_x0), (.ref b2), (.ref b2)]))
  obtain ⟨rfl, N5q, K5, f5_0, f5_1⟩ := hQ5
  have KK5 : Keep h0 T5.heap [] := KK2.trans K5 (allS (Or.inr sz_b2) all0)
  have O5 := O2.keep K5 (allS g_b2 all0)
  have N5 := Fr.app N0 N5q
  refine ⟨(some (.ref b2)), _, _, _, _, X5, (fun h => nomatch h), ?_, by decide, by decide, fun fs hr => castTop (ef_25_R m r1) ?_⟩
  · show Q_rm25_1 Z r1 w_x0 w_x1 k_r1 n0 h0 _ T5.heap _
    exact ⟨b2, rfl, N5, KK5, sz_b2, (A2.keep K5), f5_0, f5_1⟩
  · show Steps p.tables e below (s₁.setTop (mkF m 0 #[.val (.ref r1), .unset] [])) _
    refine XS.aloadN X0.here hx rfl (hb hby d25_0) rfl rfl ?_
    refine X0.arraylength hx (by rw [e0]; exact Ar1.1) (State.isArrayOf_alike hZ.alike Ar1.2.1) (g := (mkF m 1 #[.val (.ref r1), .unset] [(.ref r1)])) rfl rfl (hb hby d25_1) _ ?_
    rw [len_of Sr1 Nr1]
    refine XS.tswIn X0.here hx rfl (pc0 := 2) (pc' := 45) rfl (hb hby d25_2) rfl (by decide) (o := 43) (by decide) (by decide) (by decide) ?_
    refine st2 _ ?_
    refine XS.dup X2.here hx rfl (hb hby d25_48) rfl rfl ?_
    refine XS.aloadN X2.here hx rfl (hb hby d25_49) rfl rfl ?_
    refine XS.iconst X2.here hx rfl (hb hby d25_50) ?_
    refine X2.aaload hx (j := (0 : Int32)) (v := (.ref w_x0)) (by rw [e2]; exact Ar3.1) (State.isArrayOf_alike hZ.alike Ar3.2.1) rfl Ar3.2.2 hin3 hat3 (g := (mkF m 51 #[.val (.ref r1), .unset] [(.int (0 : Int32)), (.ref r1), (.ref b2), (.ref b2)])) rfl rfl (hb hby d25_51) _ ?_
    show Steps p.tables e below (T2.setTop (mkF m 52 #[.val (.ref r1), .unset] [(.ref w_x0), (.ref b2), (.ref b2)])) _
    refine XS.aloadN X2.here hx rfl (hb hby d25_52) rfl rfl ?_
    refine XS.iconst X2.here hx rfl (hb hby d25_53) ?_
    refine X2.aaload hx (j := (1 : Int32)) (v := (.ref w_x1)) (by rw [e2]; exact Ar4.1) (State.isArrayOf_alike hZ.alike Ar4.2.1) rfl Ar4.2.2 hin4 hat4 (g := (mkF m 54 #[.val (.ref r1), .unset] [(.int (1 : Int32)), (.ref r1), (.ref w_x0), (.ref b2), (.ref b2)])) rfl rfl (hb hby d25_54) _ ?_
    refine st5 _ ?_
    exact retA X5 hx hret rfl rfl rfl (hb hby d25_58) hr
def Q_rm14_2 (Z : State) (r1 : Addr) (r2 : Addr) (w_MIR : Addr) (w_x0 : Addr) (w_x1 : Addr) (k_r2 : ClassId) (n0 : Nat) (h0 : Heap) (v : Option Value) (h : Heap) (L : List Loc) : Prop := ∃ b5_0 : Addr, v = (some (.ref b5_0)) ∧ Fr n0 L ∧ Keep h0 h [] ∧ h0.size ≤ b5_0 ∧ Exa Z h b5_0 sN6 ∧ Fld Z h b5_0 sN6 "e0" sN11 (.ref w_x0) ∧ Fld Z h b5_0 sN6 "e1" sN11 (.ref w_x1)
theorem rm14_2 (l : Launch) (Z : State) (a0 : Array Value) (hw : own_HW a0 Z) (r1 : Addr) (r2 : Addr) (w_MIR : Addr) (w_x0 : Addr) (w_x1 : Addr) (k_r2 : ClassId) (h0 : Heap) (n0 : Nat) (O0 : Old Z n0 h0) (P1 : Exa Z h0 r1 sN0) (P2 : Fld Z h0 r1 sN0 "size" "I" (.int (2 : Int32))) (P3 : Fld Z h0 r1 sN0 "elementData" sN4 (.ref r2)) (P4 : Exa Z h0 r2 sN4) (P5 : Mir Z sN4 w_MIR) (P6 : Arv Z h0 r2 k_r2 (.object sN1) (10 : Int32) [(.ref w_x0), (.ref w_x1), .null, .null, .null, .null, .null, .null, .null, .null] .null) (P7 : Exa Z Z.heap w_x1 sN9) (P8 : Exa Z Z.heap w_x0 sN9) :
    own_Ct l Z yN12 jdk_56_method_3_code 2 (some (.object sN3)) ({ frames := 6, cells := 2, slots := 4, locals := 100 } : Room) #[(.ref r1)] h0 (Q_rm14_2 Z r1 r2 w_MIR w_x0 w_x1 k_r2 n0 h0) := by
  refine own_enter (own := sN14) rfl (plainFor_of_name pn_9) ?_
  intro p e s m below meth c s₁ X0 hx hby hml hown hnm hret hZ e0
  have N0 := Fr.nil n0
  obtain ⟨T1, X1, e1, st1⟩ := instNo X0 hx hZ hown (w90 hw) e0 P1 (own_nsno (w91 hw) (w337 hw) (NS.step (w91 hw) (NS.step (w92 hw) (NS.step (w93 hw) (own_nsroot (w94 hw) (w337 hw) (by decide)) (by decide)) (by decide)) (by decide)) (by decide)) (g := (mkF m 1 #[.val (.ref r1), .unset] [(.ref r1)])) rfl rfl (hb hby d14_1)
  obtain ⟨T2, X2, e2, st2⟩ := instNo X1 hx hZ hown (w95 hw) e1 P1 (own_nsno (w91 hw) (w203 hw) (NS.step (w91 hw) (NS.step (w92 hw) (NS.step (w93 hw) (own_nsroot (w94 hw) (w203 hw) (by decide)) (by decide)) (by decide)) (by decide)) (by decide)) (g := (mkF m 8 #[.val (.ref r1), .unset] [(.ref r1)])) rfl rfl (hb hby d14_8)
  obtain ⟨_, T3, L3, X3, hQ3, st3⟩ := own_cF X2 hx hZ hown (w96 hw) (w97 hw) (w98 hw) (w99 hw) (w100 hw) (w101 hw) (w102 hw) (w103 hw) (w2 hw) (w104 hw) P1 (rm15_2 l Z a0 hw r1 h0 n0 O0 P2) e2 (hb hby d14_32) hml pd_5 [] [] (g := (mkF m 32 #[.val (.ref r1), .unset] [(.ref r1)]))
  obtain ⟨rfl, N3q, e3⟩ := hQ3
  have N3 := Fr.app N0 N3q
  obtain ⟨_, T4, L4, X4, hQ4, st4⟩ := own_cF X3 hx hZ hown (w165 hw) (w166 hw) (w167 hw) (w168 hw) (w169 hw) (w170 hw) (w171 hw) (w103 hw) (w2 hw) (w172 hw) P1 (rm21_1 l Z a0 hw r1 r2 w_MIR w_x0 w_x1 k_r2 h0 n0 O0 P3 P2 P4 P5 P6 P7 P8) e3 (hb hby d14_45) hml pd_33 [] [] (g := (mkF m 45 #[.val (.ref r1), .unset] [(.ref r1)]))
  obtain ⟨b4_0, kc4_0, rfl, N4q, K4, ge_b4_0, f4_0, f4_1, ov4_1⟩ := hQ4
  have g_b4_0 : n0 ≤ b4_0 := Nat.le_trans ((O0.1 ▸ O0.2.1) : n0 ≤ h0.size) ge_b4_0
  have sz_b4_0 : h0.size ≤ b4_0 := Nat.le_trans (Keep.refl h0 []).1 ge_b4_0
  have KK4 : Keep h0 T4.heap [] := (Keep.refl h0 []).trans K4 all0
  have O4 := O0.keep K4 all0
  have N4 := Fr.app N3 N4q
  obtain ⟨_, T5, L5, X5, hQ5, st5⟩ := own_cS X4 hx hZ hown (w195 hw) (w196 hw) (w84 hw) (w197 hw) (rm25_1 l Z a0 hw b4_0 w_x0 w_x1 kc4_0 T4.heap n0 O4 ov4_1 f4_1) rfl (hb hby d14_50) hml pd_44 [(.ref b4_0)] [] (g := (mkF m 50 #[.val (.ref r1), .unset] [(.ref b4_0)]))
  obtain ⟨b5_0, rfl, N5q, K5, ge_b5_0, f5_0, f5_1, f5_2⟩ := hQ5
  have g_b5_0 : n0 ≤ b5_0 := Nat.le_trans ((O4.1 ▸ O4.2.1) : n0 ≤ T4.heap.size) ge_b5_0
  have sz_b5_0 : h0.size ≤ b5_0 := Nat.le_trans KK4.1 ge_b5_0
  have KK5 : Keep h0 T5.heap [] := KK4.trans K5 all0
  have O5 := O4.keep K5 all0
  have N5 := Fr.app N4 N5q
  refine ⟨(some (.ref b5_0)), _, _, _, _, X5, (fun h => nomatch h), ?_, by decide, by decide, fun fs hr => castTop (ef_14_R m r1) ?_⟩
  · show Q_rm14_2 Z r1 r2 w_MIR w_x0 w_x1 k_r2 n0 h0 _ T5.heap _
    exact ⟨b5_0, rfl, N5, KK5, sz_b5_0, f5_0, f5_1, f5_2⟩
  · show Steps p.tables e below (s₁.setTop (mkF m 0 #[.val (.ref r1), .unset] [])) _
    refine XS.aloadN X0.here hx rfl (hb hby d14_0) rfl rfl ?_
    refine st1 _ ?_
    refine XS.ifNo X1.here hx rfl (hb hby d14_4) rfl (by decide) ?_
    refine XS.aloadN X1.here hx rfl (hb hby d14_7) rfl rfl ?_
    refine st2 _ ?_
    refine XS.ifYes X2.here hx rfl (pc0 := 11) (pc' := 31) rfl (hb hby d14_11) rfl (by decide) (by decide) (by decide) ?_
    refine XS.aloadN X2.here hx rfl (hb hby d14_31) rfl rfl ?_
    refine st3 _ ?_
    show Steps p.tables e below (T3.setTop (mkF m 37 #[.val (.ref r1), .unset] [(.int (0 : Int32))])) _
    refine XS.ifYes X3.here hx rfl (pc0 := 37) (pc' := 44) rfl (hb hby d14_37) rfl (by decide) (by decide) (by decide) ?_
    refine XS.aloadN X3.here hx rfl (hb hby d14_44) rfl rfl ?_
    refine st4 _ ?_
    refine st5 _ ?_
    exact retA X5 hx hret rfl rfl rfl (hb hby d14_53) hr
def Q_rm13_2 (Z : State) (r1 : Addr) (r2 : Addr) (w_MIR : Addr) (w_x0 : Addr) (w_x1 : Addr) (k_r2 : ClassId) (n0 : Nat) (h0 : Heap) (v : Option Value) (h : Heap) (L : List Loc) : Prop := ∃ b1_0 : Addr, v = (some (.ref b1_0)) ∧ Fr n0 L ∧ Keep h0 h [] ∧ h0.size ≤ b1_0 ∧ Exa Z h b1_0 sN6 ∧ Fld Z h b1_0 sN6 "e0" sN11 (.ref w_x0) ∧ Fld Z h b1_0 sN6 "e1" sN11 (.ref w_x1)
theorem rm13_2 (l : Launch) (Z : State) (a0 : Array Value) (hw : own_HW a0 Z) (r1 : Addr) (r2 : Addr) (w_MIR : Addr) (w_x0 : Addr) (w_x1 : Addr) (k_r2 : ClassId) (h0 : Heap) (n0 : Nat) (O0 : Old Z n0 h0) (P1 : Exa Z h0 r1 sN0) (P2 : Fld Z h0 r1 sN0 "size" "I" (.int (2 : Int32))) (P3 : Fld Z h0 r1 sN0 "elementData" sN4 (.ref r2)) (P4 : Exa Z h0 r2 sN4) (P5 : Mir Z sN4 w_MIR) (P6 : Arv Z h0 r2 k_r2 (.object sN1) (10 : Int32) [(.ref w_x0), (.ref w_x1), .null, .null, .null, .null, .null, .null, .null, .null] .null) (P7 : Exa Z Z.heap w_x1 sN9) (P8 : Exa Z Z.heap w_x0 sN9) :
    own_Ct l Z yN11 jdk_40_method_48_code 1 (some (.object sN3)) ({ frames := 7, cells := 2, slots := 4, locals := 113 } : Room) #[(.ref r1)] h0 (Q_rm13_2 Z r1 r2 w_MIR w_x0 w_x1 k_r2 n0 h0) := by
  refine own_enter (own := sN3) rfl (plainFor_of_name pn_6) ?_
  intro p e s m below meth c s₁ X0 hx hby hml hown hnm hret hZ e0
  have N0 := Fr.nil n0
  obtain ⟨_, T1, L1, X1, hQ1, st1⟩ := own_cS X0 hx hZ hown (w86 hw) (w87 hw) (w88 hw) (w89 hw) (rm14_2 l Z a0 hw r1 r2 w_MIR w_x0 w_x1 k_r2 h0 n0 O0 P1 P2 P3 P4 P5 P6 P7 P8) e0 (hb hby d13_1) hml pd_11 [(.ref r1)] [] (g := (mkF m 1 #[.val (.ref r1)] [(.ref r1)]))
  obtain ⟨b1_0, rfl, N1q, K1, ge_b1_0, f1_0, f1_1, f1_2⟩ := hQ1
  have g_b1_0 : n0 ≤ b1_0 := Nat.le_trans ((O0.1 ▸ O0.2.1) : n0 ≤ h0.size) ge_b1_0
  have sz_b1_0 : h0.size ≤ b1_0 := Nat.le_trans (Keep.refl h0 []).1 ge_b1_0
  have KK1 : Keep h0 T1.heap [] := (Keep.refl h0 []).trans K1 all0
  have O1 := O0.keep K1 all0
  have N1 := Fr.app N0 N1q
  refine ⟨(some (.ref b1_0)), _, _, _, _, X1, (fun h => nomatch h), ?_, by decide, by decide, fun fs hr => castTop (ef_13_R m r1) ?_⟩
  · show Q_rm13_2 Z r1 r2 w_MIR w_x0 w_x1 k_r2 n0 h0 _ T1.heap _
    exact ⟨b1_0, rfl, N1, KK1, sz_b1_0, f1_0, f1_1, f1_2⟩
  · show Steps p.tables e below (s₁.setTop (mkF m 0 #[.val (.ref r1)] [])) _
    refine XS.aloadN X0.here hx rfl (hb hby d13_0) rfl rfl ?_
    refine st1 _ ?_
    exact retA X1 hx hret rfl rfl rfl (hb hby d13_4) hr
theorem rm47_1 (l : Launch) (Z : State) (a0 : Array Value) (hw : own_HW a0 Z) (r1 : Addr) (w_x1 : Addr) (w_NIL : Addr) (h0 : Heap) (n0 : Nat) (O0 : Old Z n0 h0) (P1 : Fld Z h0 r1 sN6 "e1" sN11 (.ref w_x1)) (P2 : Sta Z Z.heap sN14 "EMPTY" sN11 (.ref w_NIL)) (P3 : Exa Z Z.heap w_x1 sN9) (P4 : Exa Z Z.heap w_NIL sN1) :
    own_Ct l Z yN28 jdk_44_method_3_code 1 (some .int) ({ frames := 0, cells := 0, slots := 0, locals := 0 } : Room) #[(.ref r1)] h0 (own_QP (some (.int (2 : Int32))) n0 h0) := by
  refine own_enter (own := sN6) rfl (plainFor_of_name pn_40) ?_
  intro p e s m below meth c s₁ X0 hx hby hml hown hnm hret hZ e0
  have N0 := Fr.nil n0
  obtain ⟨T1, X1, e1, st1⟩ := getF X0 hx hZ hown (host := "") (Or.inl (w351 hw)) Via.refl e0 P1 (g := (mkF m 1 #[.val (.ref r1)] [(.ref r1)])) rfl rfl (hb hby d47_1)
  obtain ⟨T2, X2, e2, st2⟩ := getS2 X1 hx hZ hown (Or.inr (w350 hw)) Via.refl e1 (P2.ext O0.2) (g := (mkF m 4 #[.val (.ref r1)] [(.ref w_x1)])) rfl (hb hby d47_4)
  refine ⟨(some (.int (2 : Int32))), _, _, _, _, X2, (fun h => nomatch h), ?_, by decide, by decide, fun fs hr => castTop (ef_47_R m r1) ?_⟩
  · show own_QP (some (.int (2 : Int32))) n0 h0 _ T2.heap _
    rw [e2]
    exact ⟨rfl, N0, rfl⟩
  · show Steps p.tables e below (s₁.setTop (mkF m 0 #[.val (.ref r1)] [])) _
    refine XS.aloadN X0.here hx rfl (hb hby d47_0) rfl rfl ?_
    refine st1 _ ?_
    refine st2 _ ?_
    refine Jvm.RoadKit.acmp (g := (mkF m 7 #[.val (.ref r1)] [(.ref w_NIL), (.ref w_x1)])) X2 hx rfl rfl rfl (pc0 := 7) (pc' := 10) (same := false) rfl (hb hby d47_7) rfl (decide_eq_false fun q => (ne_exa (P3.ext O0.2) (P4.ext O0.2) (by decide)) (Value.ref.inj q)) (by decide) (by decide) ?_
    refine XS.iconst X2.here hx rfl (hb hby d47_10) ?_
    refine XS.goto X2.here hx rfl (pc0 := 11) (pc' := 15) rfl (hb hby d47_11) (by decide) (by decide) ?_
    exact retI X2 hx hret (hb hby d47_15) hr
def Q_rm19_2 (Z : State) (r1 : Addr) (r2 : Addr) (n0 : Nat) (h0 : Heap) (v : Option Value) (h : Heap) (L : List Loc) : Prop := v = none ∧ Fr n0 L ∧ Keep h0 h [r1] ∧ Fld Z h r1 sN5 "list" sN10 (.ref r2) ∧ Fld Z h r1 sN5 "size" "I" (.int (2 : Int32)) ∧ Fld Z h r1 sN5 "cursor" "I" (.int (0 : Int32)) ∧ Fld Z h r1 sN5 sN19 "Z" (.int (0 : Int32))
theorem rm19_2 (l : Launch) (Z : State) (a0 : Array Value) (hw : own_HW a0 Z) (r1 : Addr) (r2 : Addr) (h0 : Heap) (n0 : Nat) (O0 : Old Z n0 h0) (P1 : Exa Z h0 r1 sN5) (P2 : Fld Z h0 r1 sN5 "list" sN10 .null) (P3 : Fld Z h0 r1 sN5 "size" "I" (.int (0 : Int32))) (P4 : Fld Z h0 r1 sN5 "cursor" "I" (.int (0 : Int32))) (P5 : Fld Z h0 r1 sN5 sN19 "Z" (.int (0 : Int32))) (P6 : n0 ≤ r1) :
    own_Ct l Z yN19 jdk_53_method_1_code 3 none ({ frames := 1, cells := 0, slots := 0, locals := 12 } : Room) #[(.ref r1), (.ref r2), (.int (2 : Int32))] h0 (Q_rm19_2 Z r1 r2 n0 h0) := by
  refine own_enter (own := sN5) rfl (plainFor_of_name pn_16) ?_
  intro p e s m below meth c s₁ X0 hx hby hml hown hnm hret hZ e0
  have N0 := Fr.nil n0
  obtain ⟨T1, X1, e1, st1⟩ := initO X0 hx hZ hown (w147 hw) (w19 hw) (w20 hw) e0 (g := (mkF m 1 #[.val (.ref r1), .val (.ref r2), .val (.int (2 : Int32))] [(.ref r1)])) rfl (by rw [hml]; rfl) rfl (hb hby d19_1) (by decide) (W := 0) (by show 2 * 0 + _ ≤ _; exact Nat.le_of_eq rfl) (by decide)
  obtain ⟨T2, h2, X2, e2, W2, st2⟩ := putF X1 hx hZ hown (host := "") (Or.inl (w148 hw)) Via.refl e1 P2 P1 (Or.inr ⟨(w149 hw), rfl, hnm⟩) (w137 hw) (ty := (.object sN3)) (by decide) rfl rfl (g := (mkF m 6 #[.val (.ref r1), .val (.ref r2), .val (.int (2 : Int32))] [(.ref r2), (.ref r1)])) rfl rfl (hb hby d19_6)
  have Fw2 := P2.same W2
  have KK2 : Keep h0 h2 [r1] := (Keep.refl h0 [r1]).wr W2 (Or.inl (List.mem_of_getElem? (i := 0) rfl))
  have O2 := O0.wr W2 P6
  have N2 := Fr.snoc X2 N0 P6
  have fc3 := (P3.other W2 (Or.inr (slot_ne (Or.inr (w151 hw)) (Or.inr (w149 hw)) (by decide) (t := .int) (t' := (.object sN3)) (by decide) (by decide))))
  obtain ⟨T4, h4, X4, e4, W4, st4⟩ := putF X2 hx hZ hown (host := "") (Or.inl (w150 hw)) Via.refl e2 fc3 (P1.wr W2) (Or.inr ⟨(w151 hw), rfl, hnm⟩) (w137 hw) (ty := .int) (by decide) rfl rfl (g := (mkF m 11 #[.val (.ref r1), .val (.ref r2), .val (.int (2 : Int32))] [(.int (2 : Int32)), (.ref r1)])) rfl rfl (hb hby d19_11)
  have Fw4 := fc3.same W4
  have KK4 : Keep h0 h4 [r1] := KK2.wr W4 (Or.inl (List.mem_of_getElem? (i := 0) rfl))
  have O4 := O2.wr W4 P6
  have N4 := Fr.snoc X4 N2 P6
  have fc5 := ((P4.other W2 (Or.inr (slot_ne (Or.inl (w153 hw)) (Or.inr (w149 hw)) (by decide) (t := .int) (t' := (.object sN3)) (by decide) (by decide)))).other W4 (Or.inr (slot_ne (Or.inl (w153 hw)) (Or.inr (w151 hw)) (by decide) (t := .int) (t' := .int) (by decide) (by decide))))
  obtain ⟨T6, h6, X6, e6, W6, st6⟩ := putF X4 hx hZ hown (host := "") (Or.inl (w152 hw)) Via.refl e4 fc5 ((P1.wr W2).wr W4) (Or.inl (w153 hw)) (w137 hw) (ty := .int) (by decide) rfl rfl (g := (mkF m 16 #[.val (.ref r1), .val (.ref r2), .val (.int (2 : Int32))] [(.int (0 : Int32)), (.ref r1)])) rfl rfl (hb hby d19_16)
  have Fw6 := fc5.same W6
  have KK6 : Keep h0 h6 [r1] := KK4.wr W6 (Or.inl (List.mem_of_getElem? (i := 0) rfl))
  have O6 := O4.wr W6 P6
  have N6 := Fr.snoc X6 N4 P6
  have fc7 := (((P5.other W2 (Or.inr (slot_ne (Or.inr (w155 hw)) (Or.inr (w149 hw)) (by decide) (t := .boolean) (t' := (.object sN3)) (by decide) (by decide)))).other W4 (Or.inr (slot_ne (Or.inr (w155 hw)) (Or.inr (w151 hw)) (by decide) (t := .boolean) (t' := .int) (by decide) (by decide)))).other W6 (Or.inr (slot_ne (Or.inr (w155 hw)) (Or.inl (w153 hw)) (by decide) (t := .boolean) (t' := .int) (by decide) (by decide))))
  obtain ⟨T8, h8, X8, e8, W8, st8⟩ := putFN X6 hx hZ hown (w154 hw) Via.refl e6 fc7 (((P1.wr W2).wr W4).wr W6) (Or.inr ⟨(w155 hw), rfl, hnm⟩) (w137 hw) (ty := .boolean) (v' := (.int (0 : Int32))) (by decide) (by decide) (by decide) (g := (mkF m 21 #[.val (.ref r1), .val (.ref r2), .val (.int (2 : Int32))] [(.int (0 : Int32)), (.ref r1)])) rfl rfl (hb hby d19_21)
  have Fw8 := fc7.same W8
  have KK8 : Keep h0 h8 [r1] := KK6.wr W8 (Or.inl (List.mem_of_getElem? (i := 0) rfl))
  have O8 := O6.wr W8 P6
  have N8 := Fr.snoc X8 N6 P6
  have fc9 := (((Fw2.other W4 (Or.inr (slot_ne (Or.inr (w149 hw)) (Or.inr (w151 hw)) (by decide) (t := (.object sN3)) (t' := .int) (by decide) (by decide)))).other W6 (Or.inr (slot_ne (Or.inr (w149 hw)) (Or.inl (w153 hw)) (by decide) (t := (.object sN3)) (t' := .int) (by decide) (by decide)))).other W8 (Or.inr (slot_ne (Or.inr (w149 hw)) (Or.inr (w155 hw)) (by decide) (t := (.object sN3)) (t' := .boolean) (by decide) (by decide))))
  have fc10 := ((Fw4.other W6 (Or.inr (slot_ne (Or.inr (w151 hw)) (Or.inl (w153 hw)) (by decide) (t := .int) (t' := .int) (by decide) (by decide)))).other W8 (Or.inr (slot_ne (Or.inr (w151 hw)) (Or.inr (w155 hw)) (by decide) (t := .int) (t' := .boolean) (by decide) (by decide))))
  have fc11 := (Fw6.other W8 (Or.inr (slot_ne (Or.inl (w153 hw)) (Or.inr (w155 hw)) (by decide) (t := .int) (t' := .boolean) (by decide) (by decide))))
  refine ⟨none, _, _, _, _, X8, (fun _ => rfl), ?_, by decide, by decide, fun fs hr => castTop (ef_19_RRI m r1 r2 (2 : Int32)) ?_⟩
  · show Q_rm19_2 Z r1 r2 n0 h0 _ T8.heap _
    rw [e8]
    exact ⟨rfl, N8, KK8, fc9, fc10, fc11, Fw8⟩
  · show Steps p.tables e below (s₁.setTop (mkF m 0 #[.val (.ref r1), .val (.ref r2), .val (.int (2 : Int32))] [])) _
    refine XS.aloadN X0.here hx rfl (hb hby d19_0) rfl rfl ?_
    refine st1 _ ?_
    refine XS.aloadN X1.here hx rfl (hb hby d19_4) rfl rfl ?_
    refine XS.aloadN X1.here hx rfl (hb hby d19_5) rfl rfl ?_
    refine st2 _ ?_
    refine XS.aloadN X2.here hx rfl (hb hby d19_9) rfl rfl ?_
    refine XS.iloadN X2.here hx rfl (hb hby d19_10) rfl ?_
    refine st4 _ ?_
    show Steps p.tables e below (T4.setTop (mkF m 14 #[.val (.ref r1), .val (.ref r2), .val (.int (2 : Int32))] [])) _
    refine XS.aloadN X4.here hx rfl (hb hby d19_14) rfl rfl ?_
    refine XS.iconst X4.here hx rfl (hb hby d19_15) ?_
    refine st6 _ ?_
    refine XS.aloadN X6.here hx rfl (hb hby d19_19) rfl rfl ?_
    refine XS.iconst X6.here hx rfl (hb hby d19_20) ?_
    refine st8 _ ?_
    exact X8.returnOut hx hret (hb hby d19_24) hr
def Q_rm18_2 (Z : State) (r1 : Addr) (w_x1 : Addr) (w_NIL : Addr) (n0 : Nat) (h0 : Heap) (v : Option Value) (h : Heap) (L : List Loc) : Prop := ∃ b1 : Addr, v = (some (.ref b1)) ∧ Fr n0 L ∧ Keep h0 h [] ∧ h0.size ≤ b1 ∧ Exa Z h b1 sN5 ∧ Fld Z h b1 sN5 "list" sN10 (.ref r1) ∧ Fld Z h b1 sN5 "size" "I" (.int (2 : Int32)) ∧ Fld Z h b1 sN5 "cursor" "I" (.int (0 : Int32)) ∧ Fld Z h b1 sN5 sN19 "Z" (.int (0 : Int32))
theorem rm18_2 (l : Launch) (Z : State) (a0 : Array Value) (hw : own_HW a0 Z) (r1 : Addr) (w_x1 : Addr) (w_NIL : Addr) (h0 : Heap) (n0 : Nat) (O0 : Old Z n0 h0) (P1 : Exa Z h0 r1 sN6) (P2 : Fld Z h0 r1 sN6 "e1" sN11 (.ref w_x1)) (P3 : Sta Z Z.heap sN14 "EMPTY" sN11 (.ref w_NIL)) (P4 : Exa Z Z.heap w_x1 sN9) (P5 : Exa Z Z.heap w_NIL sN1) :
    own_Ct l Z yN8 jdk_46_method_10_code 1 (some (.object sN22)) ({ frames := 2, cells := 1, slots := 4, locals := 27 } : Room) #[(.ref r1)] h0 (Q_rm18_2 Z r1 w_x1 w_NIL n0 h0) := by
  refine own_enter (own := sN21) rfl (plainFor_of_name pn_19) ?_
  intro p e s m below meth c s₁ X0 hx hby hml hown hnm hret hZ e0
  have N0 := Fr.nil n0
  obtain ⟨T1, h1, X1, e1, E1, A1, D1, -, st1⟩ := newO X0 hx hZ hown (w136 hw) (w137 hw) (w138 hw) e0 (g := (mkF m 0 #[.val (.ref r1)] [])) rfl (hb hby d18_0) (by decide) (by decide)
  obtain ⟨b1, gq1⟩ : ∃ z, z = h0.size := ⟨_, rfl⟩
  rw [← gq1] at A1 D1 st1
  have g_b1 : n0 ≤ b1 := Nat.le_trans ((O0.1 ▸ O0.2.1) : n0 ≤ h0.size) (Nat.le_of_eq gq1.symm)
  have sz_b1 : h0.size ≤ b1 := Nat.le_trans (Keep.refl h0 []).1 (Nat.le_of_eq gq1.symm)
  have KK1 : Keep h0 h1 [] := (Keep.refl h0 []).ext E1
  have O1 := O0.ext E1
  have F_list_b1 : Fld Z h1 b1 sN5 "list" sN10 .null := D1 (Or.inr (w149 hw)) (ty := (.object sN3)) (by decide)
  have F_size_b1 : Fld Z h1 b1 sN5 "size" "I" (.int (0 : Int32)) := D1 (Or.inr (w151 hw)) (ty := .int) (by decide)
  have F_cursor_b1 : Fld Z h1 b1 sN5 "cursor" "I" (.int (0 : Int32)) := D1 (Or.inl (w153 hw)) (ty := .int) (by decide)
  have F_isListIterator_b1 : Fld Z h1 b1 sN5 sN19 "Z" (.int (0 : Int32)) := D1 (Or.inr (w155 hw)) (ty := .boolean) (by decide)
  obtain ⟨_, T2, L2, X2, hQ2, st2⟩ := own_cU (owner := sN29) X1 hx hZ hown (w139 hw) (w140 hw) (w141 hw) (w361 hw) (w354 hw) (w338 hw) (w358 hw) (by decide) (P1.ext E1) (rm47_1 l Z a0 hw r1 w_x1 w_NIL h1 n0 O1 (P2.ext E1) P3 P4 P5) e1 (hb hby d18_6) hml pd_15 [] [(.ref r1), (.ref b1), (.ref b1)] (g := (mkF m 6 #[.val (.ref r1)] [(.ref r1), (.ref r1), (.ref b1), (.ref b1)]))
  obtain ⟨rfl, N2q, e2⟩ := hQ2
  have N2 := Fr.app N0 N2q
  obtain ⟨_, T3, L3, X3, hQ3, st3⟩ := own_cI X2 hx hZ hown rfl (w143 hw) (w144 hw) (w138 hw) (w146 hw) (rm19_2 l Z a0 hw b1 r1 h1 n0 O1 A1 F_list_b1 F_size_b1 F_cursor_b1 F_isListIterator_b1 g_b1) e2 (hb hby d18_9) hml pd_18 [(.ref r1), (.int (2 : Int32))] [(.ref b1)] (g := (mkF m 9 #[.val (.ref r1)] [(.int (2 : Int32)), (.ref r1), (.ref b1), (.ref b1)]))
  obtain ⟨rfl, N3q, K3, f3_0, f3_1, f3_2, f3_3⟩ := hQ3
  have KK3 : Keep h0 T3.heap [] := KK1.trans K3 (allS (Or.inr sz_b1) all0)
  have O3 := O1.keep K3 (allS g_b1 all0)
  have N3 := Fr.app N2 N3q
  refine ⟨(some (.ref b1)), _, _, _, _, X3, (fun h => nomatch h), ?_, by decide, by decide, fun fs hr => castTop (ef_18_R m r1) ?_⟩
  · show Q_rm18_2 Z r1 w_x1 w_NIL n0 h0 _ T3.heap _
    exact ⟨b1, rfl, N3, KK3, sz_b1, (A1.keep K3), f3_0, f3_1, f3_2, f3_3⟩
  · show Steps p.tables e below (s₁.setTop (mkF m 0 #[.val (.ref r1)] [])) _
    refine st1 _ ?_
    refine XS.dup X1.here hx rfl (hb hby d18_3) rfl rfl ?_
    refine XS.aloadN X1.here hx rfl (hb hby d18_4) rfl rfl ?_
    refine XS.aloadN X1.here hx rfl (hb hby d18_5) rfl rfl ?_
    refine st2 _ ?_
    refine st3 _ ?_
    exact retA X3 hx hret rfl rfl rfl (hb hby d18_12) hr
theorem rm20_3 (l : Launch) (Z : State) (a0 : Array Value) (hw : own_HW a0 Z) (r1 : Addr) (h0 : Heap) (n0 : Nat) (O0 : Old Z n0 h0) (P1 : Fld Z h0 r1 sN5 "cursor" "I" (.int (0 : Int32))) (P2 : Fld Z h0 r1 sN5 "size" "I" (.int (2 : Int32))) :
    own_Ct l Z yN2 jdk_53_method_3_code 1 (some .boolean) ({ frames := 0, cells := 0, slots := 0, locals := 0 } : Room) #[(.ref r1)] h0 (own_QP (some (.int (1 : Int32))) n0 h0) := by
  refine own_enter (own := sN5) rfl (plainFor_of_name pn_16) ?_
  intro p e s m below meth c s₁ X0 hx hby hml hown hnm hret hZ e0
  have N0 := Fr.nil n0
  obtain ⟨T1, X1, e1, st1⟩ := getF X0 hx hZ hown (host := "") (Or.inl (w152 hw)) Via.refl e0 P1 (g := (mkF m 1 #[.val (.ref r1)] [(.ref r1)])) rfl rfl (hb hby d20_1)
  obtain ⟨T2, X2, e2, st2⟩ := getF X1 hx hZ hown (host := "") (Or.inl (w150 hw)) Via.refl e1 P2 (g := (mkF m 5 #[.val (.ref r1)] [(.ref r1), (.int (0 : Int32))])) rfl rfl (hb hby d20_5)
  refine ⟨(some (.int (1 : Int32))), _, _, _, _, X2, (fun h => nomatch h), ?_, by decide, by decide, fun fs hr => castTop (ef_20_R m r1) ?_⟩
  · show own_QP (some (.int (1 : Int32))) n0 h0 _ T2.heap _
    rw [e2]
    exact ⟨rfl, N0, rfl⟩
  · show Steps p.tables e below (s₁.setTop (mkF m 0 #[.val (.ref r1)] [])) _
    refine XS.aloadN X0.here hx rfl (hb hby d20_0) rfl rfl ?_
    refine st1 _ ?_
    refine XS.aloadN X1.here hx rfl (hb hby d20_4) rfl rfl ?_
    refine st2 _ ?_
    refine XS.icmpNo X2.here hx rfl (hb hby d20_8) rfl (by decide) ?_
    refine XS.iconst X2.here hx rfl (hb hby d20_11) ?_
    refine XS.goto X2.here hx rfl (pc0 := 12) (pc' := 16) rfl (hb hby d20_12) (by decide) (by decide) ?_
    exact retN X2 hx (t := .boolean) hret (by simp) (hb hby d20_16) hr
def Q_rm30_1 (Z : State) (r1 : Addr) (r2 : Addr) (w_x0 : Addr) (n0 : Nat) (h0 : Heap) (v : Option Value) (h : Heap) (L : List Loc) : Prop := v = (some (.ref w_x0)) ∧ Fr n0 L ∧ Keep h0 h [r1] ∧ Fld Z h r1 sN5 "cursor" "I" (.int (1 : Int32)) ∧ Fld Z h r1 sN5 "list" sN10 (.ref r2) ∧ Fld Z h r1 sN5 "size" "I" (.int (2 : Int32)) ∧ Fld Z h r1 sN5 sN19 "Z" (.int (0 : Int32))
theorem rm30_1 (l : Launch) (Z : State) (a0 : Array Value) (hw : ∀ d ∈ tables_1, d.before a0 Z = true) (r1 : Addr) (r2 : Addr) (w_x0 : Addr) (h0 : Heap) (n0 : Nat) (O0 : Old Z n0 h0) (P1 : Fld Z h0 r1 sN5 "cursor" "I" (.int (0 : Int32))) (P2 : Fld Z h0 r1 sN5 "list" sN10 (.ref r2)) (P3 : Exa Z h0 r2 sN6) (P4 : Fld Z h0 r2 sN6 "e0" sN11 (.ref w_x0)) (P5 : Exa Z h0 r1 sN5) (P6 : Fld Z h0 r1 sN5 "size" "I" (.int (2 : Int32))) (P7 : Fld Z h0 r1 sN5 sN19 "Z" (.int (0 : Int32))) (P8 : n0 ≤ r1) :
    MetFree l yN0 (head1 [Jvm.Cond.codeWith yN0 jdk_53_method_4_code 3 (some (.object sN1)) [((0 : Nat), (24 : Nat), (25 : Nat), (30 : Nat))]] ({ frames := 1, cells := 0, slots := 0, locals := 13 } : Room)) (fun a U => a = #[(.ref r1)] ∧ Z.Warmed39 U.vm ∧ U.heap = h0) (fun _ _ _ _ _ => True) (fun _ U o U' => ∃ v L, o = .returned v ∧ Q_rm30_1 Z r1 r2 w_x0 n0 h0 v U'.heap L ∧ FrameEnd U o U' L ({ frames := 1, cells := 0, slots := 0, locals := 13 } : Room).cells ({ frames := 1, cells := 0, slots := 0, locals := 13 } : Room).slots) := by
  refine MetFree.of_bodySF (plainFor_of_name pn_16) hisWith ?_
  intro p e s m args below meth c s₁ Bd hml0 hP hK
  obtain ⟨rfl, hZ, hh⟩ := hP
  have hx := Bd.exec
  have hby := Bd.bytes
  have hml : c.maxLocals = 3 := hml0
  have hown : s.vm.findClass sN5 = some m.cls := findClass_of_methodNamed Bd.named
  have hnm := (name_of_methodNamed Bd.named Bd.method).1
  have X0 : Stand p l e ({ frames := 1, cells := 0, slots := 0, locals := 13 } : Room) s m #[(.ref r1)] below meth c s₁ [] 0 0 := Stand.of_body Bd
  have e0 : s₁.heap = h0 := by rw [← hh, Bd.state]; rfl
  have N0 := Fr.nil n0
  have pre0 : ∀ t, Steps p.tables e below (s₁.setTop (mkF m 0 #[.val (.ref r1), .unset, .unset] [])) t → Steps p.tables e below (s₁.setTop (entryFrame m #[(.ref r1)] 3)) t := fun t k => castTop (ef_30_R m r1) k
  obtain ⟨T1, X1, e1, st1⟩ := getF X0 hx hZ hown (host := "") (Or.inl (w152 hw)) Via.refl e0 P1 (g := (mkF m 1 #[.val (.ref r1), .unset, .unset] [(.ref r1)])) rfl rfl (hb hby d30_1)
  obtain ⟨T2, X2, e2, st2⟩ := getF X1 hx hZ hown (host := "") (Or.inl (w148 hw)) Via.refl e1 P2 (g := (mkF m 6 #[.val (.ref r1), .val (.int (0 : Int32)), .unset] [(.ref r1)])) rfl rfl (hb hby d30_6)
  obtain ⟨_, T3, L3, X3, hQ3, st3⟩ := own_cF X2 hx hZ hown (w231 hw) (w232 hw) (w233 hw) (w362 hw) (w363 hw) (w364 hw) (w365 hw) (w357 hw) (w338 hw) (w366 hw) P3 (rm48_0 l Z a0 hw r2 w_x0 h0 n0 O0 P4) e2 (hb hby d30_10) hml pd_47 [(.int (0 : Int32))] [] (g := (mkF m 10 #[.val (.ref r1), .val (.int (0 : Int32)), .unset] [(.int (0 : Int32)), (.ref r2)]))
  obtain ⟨rfl, N3q, e3⟩ := hQ3
  have N3 := Fr.app N0 N3q
  obtain ⟨T4, h4, X4, e4, W4, st4⟩ := putF X3 hx hZ hown (host := "") (Or.inl (w152 hw)) Via.refl e3 P1 P5 (Or.inl (w153 hw)) (w137 hw) (ty := .int) (by decide) rfl rfl (g := (mkF m 20 #[.val (.ref r1), .val (.int (0 : Int32)), .val (.ref w_x0)] [(.int (1 : Int32)), (.ref r1)])) rfl rfl (hb hby d30_20)
  have Fw4 := P1.same W4
  have KK4 : Keep h0 h4 [r1] := (Keep.refl h0 [r1]).wr W4 (Or.inl (List.mem_of_getElem? (i := 0) rfl))
  have O4 := O0.wr W4 P8
  have N4 := Fr.snoc X4 N3 P8
  have fc5 := (P2.other W4 (Or.inr (slot_ne (Or.inr (w149 hw)) (Or.inl (w153 hw)) (by decide) (t := (.object sN3)) (t' := .int) (by decide) (by decide))))
  have fc6 := (P6.other W4 (Or.inr (slot_ne (Or.inr (w151 hw)) (Or.inl (w153 hw)) (by decide) (t := .int) (t' := .int) (by decide) (by decide))))
  have fc7 := (P7.other W4 (Or.inr (slot_ne (Or.inr (w155 hw)) (Or.inl (w153 hw)) (by decide) (t := .boolean) (t' := .int) (by decide) (by decide))))
  obtain ⟨fs, hr, hrun, hended, hW, hsame⟩ := X4.leave (v := (some (.ref w_x0))) (fun h => by rw [Bd.returns] at h; cases h)
  refine ⟨_, _, pre0 _ ?_, hrun, hended, _, _, rfl, ?_, ⟨_, rfl⟩, hW, hsame.mono (by decide) (by decide)⟩
  · show Steps p.tables e below (s₁.setTop (mkF m 0 #[.val (.ref r1), .unset, .unset] [])) _
    refine XS.aloadN X0.here hx rfl (hb hby d30_0) rfl rfl ?_
    refine st1 _ ?_
    refine XS.istoreN X1.here hx rfl (hb hby d30_4) rfl (l' := #[.val (.ref r1), .val (.int (0 : Int32)), .unset]) rfl ?_
    refine XS.aloadN X1.here hx rfl (hb hby d30_5) rfl rfl ?_
    refine st2 _ ?_
    refine XS.iloadN X2.here hx rfl (hb hby d30_9) rfl ?_
    refine st3 _ ?_
    refine XS.astoreN X3.here hx rfl (hb hby d30_15) rfl rfl (l' := #[.val (.ref r1), .val (.int (0 : Int32)), .val (.ref w_x0)]) rfl ?_
    show Steps p.tables e below (T3.setTop (mkF m 16 #[.val (.ref r1), .val (.int (0 : Int32)), .val (.ref w_x0)] [])) _
    refine XS.aloadN X3.here hx rfl (hb hby d30_16) rfl rfl ?_
    refine XS.iloadN X3.here hx rfl (hb hby d30_17) rfl ?_
    refine XS.iconst X3.here hx rfl (hb hby d30_18) ?_
    refine XS.iadd X3.here hx rfl (hb hby d30_19) rfl ?_
    show Steps p.tables e below (T3.setTop (mkF m 20 #[.val (.ref r1), .val (.int (0 : Int32)), .val (.ref w_x0)] [(.int ((0 : Int32) + (1 : Int32))), (.ref r1)])) _
    rw [fo_0]
    refine st4 _ ?_
    refine XS.aloadN X4.here hx rfl (hb hby d30_23) rfl rfl ?_
    exact retA X4 hx Bd.returns rfl rfl rfl (hb hby d30_24) hr
  · show Q_rm30_1 Z r1 r2 w_x0 n0 h0 _ T4.heap _
    rw [e4]
    exact ⟨rfl, N4, KK4, Fw4, fc5, fc6, fc7⟩
theorem rm20_4 (l : Launch) (Z : State) (a0 : Array Value) (hw : own_HW a0 Z) (r1 : Addr) (h0 : Heap) (n0 : Nat) (O0 : Old Z n0 h0) (P1 : Fld Z h0 r1 sN5 "cursor" "I" (.int (1 : Int32))) (P2 : Fld Z h0 r1 sN5 "size" "I" (.int (2 : Int32))) :
    own_Ct l Z yN2 jdk_53_method_3_code 1 (some .boolean) ({ frames := 0, cells := 0, slots := 0, locals := 0 } : Room) #[(.ref r1)] h0 (own_QP (some (.int (1 : Int32))) n0 h0) := by
  refine own_enter (own := sN5) rfl (plainFor_of_name pn_16) ?_
  intro p e s m below meth c s₁ X0 hx hby hml hown hnm hret hZ e0
  have N0 := Fr.nil n0
  obtain ⟨T1, X1, e1, st1⟩ := getF X0 hx hZ hown (host := "") (Or.inl (w152 hw)) Via.refl e0 P1 (g := (mkF m 1 #[.val (.ref r1)] [(.ref r1)])) rfl rfl (hb hby d20_1)
  obtain ⟨T2, X2, e2, st2⟩ := getF X1 hx hZ hown (host := "") (Or.inl (w150 hw)) Via.refl e1 P2 (g := (mkF m 5 #[.val (.ref r1)] [(.ref r1), (.int (1 : Int32))])) rfl rfl (hb hby d20_5)
  refine ⟨(some (.int (1 : Int32))), _, _, _, _, X2, (fun h => nomatch h), ?_, by decide, by decide, fun fs hr => castTop (ef_20_R m r1) ?_⟩
  · show own_QP (some (.int (1 : Int32))) n0 h0 _ T2.heap _
    rw [e2]
    exact ⟨rfl, N0, rfl⟩
  · show Steps p.tables e below (s₁.setTop (mkF m 0 #[.val (.ref r1)] [])) _
    refine XS.aloadN X0.here hx rfl (hb hby d20_0) rfl rfl ?_
    refine st1 _ ?_
    refine XS.aloadN X1.here hx rfl (hb hby d20_4) rfl rfl ?_
    refine st2 _ ?_
    refine XS.icmpNo X2.here hx rfl (hb hby d20_8) rfl (by decide) ?_
    refine XS.iconst X2.here hx rfl (hb hby d20_11) ?_
    refine XS.goto X2.here hx rfl (pc0 := 12) (pc' := 16) rfl (hb hby d20_12) (by decide) (by decide) ?_
    exact retN X2 hx (t := .boolean) hret (by simp) (hb hby d20_16) hr
theorem rm48_1 (l : Launch) (Z : State) (a0 : Array Value) (hw : own_HW a0 Z) (r1 : Addr) (w_x1 : Addr) (w_NIL : Addr) (h0 : Heap) (n0 : Nat) (O0 : Old Z n0 h0) (P1 : Fld Z h0 r1 sN6 "e1" sN11 (.ref w_x1)) (P2 : Sta Z Z.heap sN14 "EMPTY" sN11 (.ref w_NIL)) (P3 : Exa Z Z.heap w_x1 sN9) (P4 : Exa Z Z.heap w_NIL sN1) :
    own_Ct l Z yN34 jdk_44_method_5_code 2 (some (.object sN1)) ({ frames := 0, cells := 0, slots := 0, locals := 0 } : Room) #[(.ref r1), (.int (1 : Int32))] h0 (own_QP (some (.ref w_x1)) n0 h0) := by
  refine own_enter (own := sN6) rfl (plainFor_of_name pn_40) ?_
  intro p e s m below meth c s₁ X0 hx hby hml hown hnm hret hZ e0
  have N0 := Fr.nil n0
  obtain ⟨T1, X1, e1, st1⟩ := getF X0 hx hZ hown (host := "") (Or.inl (w351 hw)) Via.refl e0 P1 (g := (mkF m 15 #[.val (.ref r1), .val (.int (1 : Int32))] [(.ref r1)])) rfl rfl (hb hby d48_15)
  obtain ⟨T2, X2, e2, st2⟩ := getS2 X1 hx hZ hown (Or.inr (w350 hw)) Via.refl e1 (P2.ext O0.2) (g := (mkF m 18 #[.val (.ref r1), .val (.int (1 : Int32))] [(.ref w_x1)])) rfl (hb hby d48_18)
  obtain ⟨T3, X3, e3, st3⟩ := getF X2 hx hZ hown (host := "") (Or.inl (w351 hw)) Via.refl e2 P1 (g := (mkF m 25 #[.val (.ref r1), .val (.int (1 : Int32))] [(.ref r1)])) rfl rfl (hb hby d48_25)
  refine ⟨(some (.ref w_x1)), _, _, _, _, X3, (fun h => nomatch h), ?_, by decide, by decide, fun fs hr => castTop (ef_48_RI m r1 (1 : Int32)) ?_⟩
  · show own_QP (some (.ref w_x1)) n0 h0 _ T3.heap _
    rw [e3]
    exact ⟨rfl, N0, rfl⟩
  · show Steps p.tables e below (s₁.setTop (mkF m 0 #[.val (.ref r1), .val (.int (1 : Int32))] [])) _
    refine XS.iloadN X0.here hx rfl (hb hby d48_0) rfl ?_
    refine XS.ifYes X0.here hx rfl (pc0 := 1) (pc' := 9) rfl (hb hby d48_1) rfl (by decide) (by decide) (by decide) ?_
    refine XS.iloadN X0.here hx rfl (hb hby d48_9) rfl ?_
    refine XS.iconst X0.here hx rfl (hb hby d48_10) ?_
    refine XS.icmpNo X0.here hx rfl (hb hby d48_11) rfl (by decide) ?_
    refine XS.aloadN X0.here hx rfl (hb hby d48_14) rfl rfl ?_
    refine st1 _ ?_
    refine st2 _ ?_
    show Steps p.tables e below (T2.setTop (mkF m 21 #[.val (.ref r1), .val (.int (1 : Int32))] [(.ref w_NIL), (.ref w_x1)])) _
    refine Jvm.RoadKit.acmp (g := (mkF m 21 #[.val (.ref r1), .val (.int (1 : Int32))] [(.ref w_NIL), (.ref w_x1)])) X2 hx rfl rfl rfl (pc0 := 21) (pc' := 24) (same := false) rfl (hb hby d48_21) rfl (decide_eq_false fun q => (ne_exa (P3.ext O0.2) (P4.ext O0.2) (by decide)) (Value.ref.inj q)) (by decide) (by decide) ?_
    refine XS.aloadN X2.here hx rfl (hb hby d48_24) rfl rfl ?_
    refine st3 _ ?_
    exact retA X3 hx hret rfl rfl rfl (hb hby d48_28) hr
def Q_rm30_2 (Z : State) (r1 : Addr) (r2 : Addr) (w_x1 : Addr) (w_NIL : Addr) (n0 : Nat) (h0 : Heap) (v : Option Value) (h : Heap) (L : List Loc) : Prop := v = (some (.ref w_x1)) ∧ Fr n0 L ∧ Keep h0 h [r1] ∧ Fld Z h r1 sN5 "cursor" "I" (.int (2 : Int32)) ∧ Fld Z h r1 sN5 "list" sN10 (.ref r2) ∧ Fld Z h r1 sN5 "size" "I" (.int (2 : Int32)) ∧ Fld Z h r1 sN5 sN19 "Z" (.int (0 : Int32))
theorem rm30_2 (l : Launch) (Z : State) (a0 : Array Value) (hw : ∀ d ∈ tables_1, d.before a0 Z = true) (r1 : Addr) (r2 : Addr) (w_x1 : Addr) (w_NIL : Addr) (h0 : Heap) (n0 : Nat) (O0 : Old Z n0 h0) (P1 : Fld Z h0 r1 sN5 "cursor" "I" (.int (1 : Int32))) (P2 : Fld Z h0 r1 sN5 "list" sN10 (.ref r2)) (P3 : Exa Z h0 r2 sN6) (P4 : Fld Z h0 r2 sN6 "e1" sN11 (.ref w_x1)) (P5 : Sta Z Z.heap sN14 "EMPTY" sN11 (.ref w_NIL)) (P6 : Exa Z Z.heap w_x1 sN9) (P7 : Exa Z Z.heap w_NIL sN1) (P8 : Exa Z h0 r1 sN5) (P9 : Fld Z h0 r1 sN5 "size" "I" (.int (2 : Int32))) (P10 : Fld Z h0 r1 sN5 sN19 "Z" (.int (0 : Int32))) (P11 : n0 ≤ r1) :
    MetFree l yN0 (head1 [Jvm.Cond.codeWith yN0 jdk_53_method_4_code 3 (some (.object sN1)) [((0 : Nat), (24 : Nat), (25 : Nat), (30 : Nat))]] ({ frames := 1, cells := 0, slots := 0, locals := 13 } : Room)) (fun a U => a = #[(.ref r1)] ∧ Z.Warmed39 U.vm ∧ U.heap = h0) (fun _ _ _ _ _ => True) (fun _ U o U' => ∃ v L, o = .returned v ∧ Q_rm30_2 Z r1 r2 w_x1 w_NIL n0 h0 v U'.heap L ∧ FrameEnd U o U' L ({ frames := 1, cells := 0, slots := 0, locals := 13 } : Room).cells ({ frames := 1, cells := 0, slots := 0, locals := 13 } : Room).slots) := by
  refine MetFree.of_bodySF (plainFor_of_name pn_16) hisWith ?_
  intro p e s m args below meth c s₁ Bd hml0 hP hK
  obtain ⟨rfl, hZ, hh⟩ := hP
  have hx := Bd.exec
  have hby := Bd.bytes
  have hml : c.maxLocals = 3 := hml0
  have hown : s.vm.findClass sN5 = some m.cls := findClass_of_methodNamed Bd.named
  have hnm := (name_of_methodNamed Bd.named Bd.method).1
  have X0 : Stand p l e ({ frames := 1, cells := 0, slots := 0, locals := 13 } : Room) s m #[(.ref r1)] below meth c s₁ [] 0 0 := Stand.of_body Bd
  have e0 : s₁.heap = h0 := by rw [← hh, Bd.state]; rfl
  have N0 := Fr.nil n0
  have pre0 : ∀ t, Steps p.tables e below (s₁.setTop (mkF m 0 #[.val (.ref r1), .unset, .unset] [])) t → Steps p.tables e below (s₁.setTop (entryFrame m #[(.ref r1)] 3)) t := fun t k => castTop (ef_30_R m r1) k
  obtain ⟨T1, X1, e1, st1⟩ := getF X0 hx hZ hown (host := "") (Or.inl (w152 hw)) Via.refl e0 P1 (g := (mkF m 1 #[.val (.ref r1), .unset, .unset] [(.ref r1)])) rfl rfl (hb hby d30_1)
  obtain ⟨T2, X2, e2, st2⟩ := getF X1 hx hZ hown (host := "") (Or.inl (w148 hw)) Via.refl e1 P2 (g := (mkF m 6 #[.val (.ref r1), .val (.int (1 : Int32)), .unset] [(.ref r1)])) rfl rfl (hb hby d30_6)
  obtain ⟨_, T3, L3, X3, hQ3, st3⟩ := own_cF X2 hx hZ hown (w231 hw) (w232 hw) (w233 hw) (w362 hw) (w363 hw) (w364 hw) (w365 hw) (w357 hw) (w338 hw) (w366 hw) P3 (rm48_1 l Z a0 hw r2 w_x1 w_NIL h0 n0 O0 P4 P5 P6 P7) e2 (hb hby d30_10) hml pd_47 [(.int (1 : Int32))] [] (g := (mkF m 10 #[.val (.ref r1), .val (.int (1 : Int32)), .unset] [(.int (1 : Int32)), (.ref r2)]))
  obtain ⟨rfl, N3q, e3⟩ := hQ3
  have N3 := Fr.app N0 N3q
  obtain ⟨T4, h4, X4, e4, W4, st4⟩ := putF X3 hx hZ hown (host := "") (Or.inl (w152 hw)) Via.refl e3 P1 P8 (Or.inl (w153 hw)) (w137 hw) (ty := .int) (by decide) rfl rfl (g := (mkF m 20 #[.val (.ref r1), .val (.int (1 : Int32)), .val (.ref w_x1)] [(.int (2 : Int32)), (.ref r1)])) rfl rfl (hb hby d30_20)
  have Fw4 := P1.same W4
  have KK4 : Keep h0 h4 [r1] := (Keep.refl h0 [r1]).wr W4 (Or.inl (List.mem_of_getElem? (i := 0) rfl))
  have O4 := O0.wr W4 P11
  have N4 := Fr.snoc X4 N3 P11
  have fc5 := (P2.other W4 (Or.inr (slot_ne (Or.inr (w149 hw)) (Or.inl (w153 hw)) (by decide) (t := (.object sN3)) (t' := .int) (by decide) (by decide))))
  have fc6 := (P9.other W4 (Or.inr (slot_ne (Or.inr (w151 hw)) (Or.inl (w153 hw)) (by decide) (t := .int) (t' := .int) (by decide) (by decide))))
  have fc7 := (P10.other W4 (Or.inr (slot_ne (Or.inr (w155 hw)) (Or.inl (w153 hw)) (by decide) (t := .boolean) (t' := .int) (by decide) (by decide))))
  obtain ⟨fs, hr, hrun, hended, hW, hsame⟩ := X4.leave (v := (some (.ref w_x1))) (fun h => by rw [Bd.returns] at h; cases h)
  refine ⟨_, _, pre0 _ ?_, hrun, hended, _, _, rfl, ?_, ⟨_, rfl⟩, hW, hsame.mono (by decide) (by decide)⟩
  · show Steps p.tables e below (s₁.setTop (mkF m 0 #[.val (.ref r1), .unset, .unset] [])) _
    refine XS.aloadN X0.here hx rfl (hb hby d30_0) rfl rfl ?_
    refine st1 _ ?_
    refine XS.istoreN X1.here hx rfl (hb hby d30_4) rfl (l' := #[.val (.ref r1), .val (.int (1 : Int32)), .unset]) rfl ?_
    refine XS.aloadN X1.here hx rfl (hb hby d30_5) rfl rfl ?_
    refine st2 _ ?_
    refine XS.iloadN X2.here hx rfl (hb hby d30_9) rfl ?_
    refine st3 _ ?_
    refine XS.astoreN X3.here hx rfl (hb hby d30_15) rfl rfl (l' := #[.val (.ref r1), .val (.int (1 : Int32)), .val (.ref w_x1)]) rfl ?_
    show Steps p.tables e below (T3.setTop (mkF m 16 #[.val (.ref r1), .val (.int (1 : Int32)), .val (.ref w_x1)] [])) _
    refine XS.aloadN X3.here hx rfl (hb hby d30_16) rfl rfl ?_
    refine XS.iloadN X3.here hx rfl (hb hby d30_17) rfl ?_
    refine XS.iconst X3.here hx rfl (hb hby d30_18) ?_
    refine XS.iadd X3.here hx rfl (hb hby d30_19) rfl ?_
    show Steps p.tables e below (T3.setTop (mkF m 20 #[.val (.ref r1), .val (.int (1 : Int32)), .val (.ref w_x1)] [(.int ((1 : Int32) + (1 : Int32))), (.ref r1)])) _
    rw [fo_1]
    refine st4 _ ?_
    refine XS.aloadN X4.here hx rfl (hb hby d30_23) rfl rfl ?_
    exact retA X4 hx Bd.returns rfl rfl rfl (hb hby d30_24) hr
  · show Q_rm30_2 Z r1 r2 w_x1 w_NIL n0 h0 _ T4.heap _
    rw [e4]
    exact ⟨rfl, N4, KK4, Fw4, fc5, fc6, fc7⟩
theorem rm32_1 (l : Launch) (Z : State) (a0 : Array Value) (hw : own_HW a0 Z) (w_x1 : Addr) (w_BOOLEAN : Addr) (h0 : Heap) (n0 : Nat) (O0 : Old Z n0 h0) (P1 : Fld Z Z.heap w_x1 sN9 "dataType" sN15 (.ref w_BOOLEAN)) :
    own_Ct l Z yN9 prog_166_method_11_code 1 (some (.object sN12)) ({ frames := 0, cells := 0, slots := 0, locals := 0 } : Room) #[(.ref w_x1)] h0 (own_QP (some (.ref w_BOOLEAN)) n0 h0) := by
  refine own_enter (own := sN9) rfl (plainFor_of_name pn_50) ?_
  intro p e s m below meth c s₁ X0 hx hby hml hown hnm hret hZ e0
  have N0 := Fr.nil n0
  obtain ⟨T1, X1, e1, st1⟩ := getF X0 hx hZ hown (host := "") (Or.inl (w246 hw)) Via.refl e0 (P1.ext O0.2) (g := (mkF m 1 #[.val (.ref w_x1)] [(.ref w_x1)])) rfl rfl (hb hby d32_1)
  refine ⟨(some (.ref w_BOOLEAN)), _, _, _, _, X1, (fun h => nomatch h), ?_, by decide, by decide, fun fs hr => castTop (ef_32_R m w_x1) ?_⟩
  · show own_QP (some (.ref w_BOOLEAN)) n0 h0 _ T1.heap _
    rw [e1]
    exact ⟨rfl, N0, rfl⟩
  · show Steps p.tables e below (s₁.setTop (mkF m 0 #[.val (.ref w_x1)] [])) _
    refine XS.aloadN X0.here hx rfl (hb hby d32_0) rfl rfl ?_
    refine st1 _ ?_
    exact retA X1 hx hret rfl rfl rfl (hb hby d32_4) hr
theorem rm20_5 (l : Launch) (Z : State) (a0 : Array Value) (hw : own_HW a0 Z) (r1 : Addr) (h0 : Heap) (n0 : Nat) (O0 : Old Z n0 h0) (P1 : Fld Z h0 r1 sN5 "cursor" "I" (.int (2 : Int32))) (P2 : Fld Z h0 r1 sN5 "size" "I" (.int (2 : Int32))) :
    own_Ct l Z yN2 jdk_53_method_3_code 1 (some .boolean) ({ frames := 0, cells := 0, slots := 0, locals := 0 } : Room) #[(.ref r1)] h0 (own_QP (some (.int (0 : Int32))) n0 h0) := by
  refine own_enter (own := sN5) rfl (plainFor_of_name pn_16) ?_
  intro p e s m below meth c s₁ X0 hx hby hml hown hnm hret hZ e0
  have N0 := Fr.nil n0
  obtain ⟨T1, X1, e1, st1⟩ := getF X0 hx hZ hown (host := "") (Or.inl (w152 hw)) Via.refl e0 P1 (g := (mkF m 1 #[.val (.ref r1)] [(.ref r1)])) rfl rfl (hb hby d20_1)
  obtain ⟨T2, X2, e2, st2⟩ := getF X1 hx hZ hown (host := "") (Or.inl (w150 hw)) Via.refl e1 P2 (g := (mkF m 5 #[.val (.ref r1)] [(.ref r1), (.int (2 : Int32))])) rfl rfl (hb hby d20_5)
  refine ⟨(some (.int (0 : Int32))), _, _, _, _, X2, (fun h => nomatch h), ?_, by decide, by decide, fun fs hr => castTop (ef_20_R m r1) ?_⟩
  · show own_QP (some (.int (0 : Int32))) n0 h0 _ T2.heap _
    rw [e2]
    exact ⟨rfl, N0, rfl⟩
  · show Steps p.tables e below (s₁.setTop (mkF m 0 #[.val (.ref r1)] [])) _
    refine XS.aloadN X0.here hx rfl (hb hby d20_0) rfl rfl ?_
    refine st1 _ ?_
    refine XS.aloadN X1.here hx rfl (hb hby d20_4) rfl rfl ?_
    refine st2 _ ?_
    refine XS.icmpYes X2.here hx rfl (pc0 := 8) (pc' := 15) rfl (hb hby d20_8) rfl (by decide) (by decide) (by decide) ?_
    refine XS.iconst X2.here hx rfl (hb hby d20_15) ?_
    exact retN X2 hx (t := .boolean) hret (by simp) (hb hby d20_16) hr
theorem rm11_2 (l : Launch) (Z : State) (a0 : Array Value) (hw : own_HW a0 Z) (r1 : Addr) (w_BOOLEAN : Addr) (r2 : Addr) (r3 : Addr) (w_MIR : Addr) (k_r3 : ClassId) (w_x0 : Addr) (w_x1 : Addr) (w_NIL : Addr) (h0 : Heap) (n0 : Nat) (O0 : Old Z n0 h0) (P1 : Exa Z Z.heap w_BOOLEAN sN12) (P2 : Exa Z h0 r1 sN2) (P3 : Fld Z h0 r1 sN2 "dataType" sN15 .null) (P4 : Fld Z h0 r1 sN2 "values" sN10 .null) (P5 : Fld Z h0 r1 sN2 "size" "I" (.int (0 : Int32))) (P6 : Fld Z h0 r1 sN2 "parts" sN10 .null) (P7 : n0 ≤ r1) (P8 : Exa Z h0 r2 sN0) (P9 : Fld Z h0 r2 sN0 "size" "I" (.int (2 : Int32))) (P10 : Fld Z h0 r2 sN0 "elementData" sN4 (.ref r3)) (P11 : Exa Z h0 r3 sN4) (P12 : Mir Z sN4 w_MIR) (P13 : Arv Z h0 r3 k_r3 (.object sN1) (10 : Int32) [(.ref w_x0), (.ref w_x1), .null, .null, .null, .null, .null, .null, .null, .null] .null) (P14 : Exa Z Z.heap w_x1 sN9) (P15 : Exa Z Z.heap w_x0 sN9) (P16 : Sta Z Z.heap sN14 "EMPTY" sN11 (.ref w_NIL)) (P17 : Exa Z Z.heap w_NIL sN1) (P18 : Fld Z Z.heap w_x0 sN9 "dataType" sN15 (.ref w_BOOLEAN)) (P19 : Fld Z Z.heap w_x1 sN9 "dataType" sN15 (.ref w_BOOLEAN)) :
    own_Ct l Z yN10 prog_167_method_1_code 5 none ({ frames := 9, cells := 4, slots := 12, locals := 126 } : Room) #[(.ref r1), (.ref w_BOOLEAN), (.ref r2)] h0 (own_QB Z r1 w_BOOLEAN (2 : Int32) n0 h0) := by
  refine own_enter (own := sN2) rfl (plainFor_of_name pn_23) ?_
  intro p e s m below meth c s₁ X0 hx hby hml hown hnm hret hZ e0
  have N0 := Fr.nil n0
  obtain ⟨T1, X1, e1, st1⟩ := initO X0 hx hZ hown (w73 hw) (w19 hw) (w20 hw) e0 (g := (mkF m 1 #[.val (.ref r1), .val (.ref w_BOOLEAN), .val (.ref r2), .unset, .unset] [(.ref r1)])) rfl (by rw [hml]; rfl) rfl (hb hby d11_1) (by decide) (W := 0) (by show 2 * 0 + _ ≤ _; exact Nat.le_of_eq rfl) (by decide)
  obtain ⟨_, T2, L2, X2, hQ2, st2⟩ := own_cS X1 hx hZ hown (w74 hw) (w75 hw) (w76 hw) (w77 hw) (rm12_0 l Z a0 hw w_BOOLEAN h0 n0 O0 ) e1 (hb hby d11_6) hml pd_2 [(.ref w_BOOLEAN)] [(.ref r1)] (g := (mkF m 6 #[.val (.ref r1), .val (.ref w_BOOLEAN), .val (.ref r2), .unset, .unset] [(.ref w_BOOLEAN), (.ref r1)]))
  obtain ⟨rfl, N2q, e2⟩ := hQ2
  have N2 := Fr.app N0 N2q
  obtain ⟨T3, X3, e3, st3⟩ := castY X2 hx hZ hown (w78 hw) e2 (Ins.self (P1.ext O0.2)) (g := (mkF m 9 #[.val (.ref r1), .val (.ref w_BOOLEAN), .val (.ref r2), .unset, .unset] [(.ref w_BOOLEAN), (.ref r1)])) rfl rfl (hb hby d11_9)
  obtain ⟨T4, h4, X4, e4, W4, st4⟩ := putF X3 hx hZ hown (host := "") (Or.inl (w80 hw)) Via.refl e3 P3 P2 (Or.inr ⟨(w81 hw), rfl, hnm⟩) (w65 hw) (ty := (.object sN12)) (by decide) rfl rfl (g := (mkF m 12 #[.val (.ref r1), .val (.ref w_BOOLEAN), .val (.ref r2), .unset, .unset] [(.ref w_BOOLEAN), (.ref r1)])) rfl rfl (hb hby d11_12)
  have Fw4 := P3.same W4
  have KK4 : Keep h0 h4 [r1] := (Keep.refl h0 [r1]).wr W4 (Or.inl (List.mem_of_getElem? (i := 0) rfl))
  have O4 := O0.wr W4 P7
  have N4 := Fr.snoc X4 N2 P7
  have nz5 : r2 ≠ r1 := (ne_exa P8 P2 (by decide))
  have nz6 : r3 ≠ r1 := (ne_exa P11 P2 (by decide))
  obtain ⟨_, T7, L7, X7, hQ7, st7⟩ := own_cS X4 hx hZ hown (w82 hw) (w83 hw) (w84 hw) (w85 hw) (rm13_2 l Z a0 hw r2 r3 w_MIR w_x0 w_x1 k_r3 h4 n0 O4 (P8.wr W4) (P9.other W4 (Or.inl nz5)) (P10.other W4 (Or.inl nz5)) (P11.wr W4) P12 (P13.other W4 nz6) P14 P15) e4 (hb hby d11_17) hml pd_11 [(.ref r2)] [(.ref r1)] (g := (mkF m 17 #[.val (.ref r1), .val (.ref w_BOOLEAN), .val (.ref r2), .unset, .unset] [(.ref r2), (.ref r1)]))
  obtain ⟨b7_0, rfl, N7q, K7, ge_b7_0, f7_0, f7_1, f7_2⟩ := hQ7
  have g_b7_0 : n0 ≤ b7_0 := Nat.le_trans ((O4.1 ▸ O4.2.1) : n0 ≤ h4.size) ge_b7_0
  have sz_b7_0 : h0.size ≤ b7_0 := Nat.le_trans KK4.1 ge_b7_0
  have KK7 : Keep h0 T7.heap [r1] := KK4.trans K7 all0
  have O7 := O4.keep K7 all0
  have N7 := Fr.app N4 N7q
  have fc8 := ((P4.other W4 (Or.inr (slot_ne (Or.inr (w110 hw)) (Or.inr (w81 hw)) (by decide) (t := (.object sN3)) (t' := (.object sN12)) (by decide) (by decide)))).keep K7 nin0)
  obtain ⟨T9, h9, X9, e9, W9, st9⟩ := putF X7 hx hZ hown (host := "") (Or.inl (w109 hw)) Via.refl rfl fc8 ((P2.wr W4).keep K7) (Or.inr ⟨(w110 hw), rfl, hnm⟩) (w65 hw) (ty := (.object sN3)) (by decide) rfl rfl (g := (mkF m 20 #[.val (.ref r1), .val (.ref w_BOOLEAN), .val (.ref r2), .unset, .unset] [(.ref b7_0), (.ref r1)])) rfl rfl (hb hby d11_20)
  have Fw9 := fc8.same W9
  have KK9 : Keep h0 h9 [r1] := KK7.wr W9 (Or.inl (List.mem_of_getElem? (i := 0) rfl))
  have O9 := O7.wr W9 P7
  have N9 := Fr.snoc X9 N7 P7
  obtain ⟨T10, X10, e10, st10⟩ := getF X9 hx hZ hown (host := "") (Or.inl (w109 hw)) Via.refl e9 Fw9 (g := (mkF m 25 #[.val (.ref r1), .val (.ref w_BOOLEAN), .val (.ref r2), .unset, .unset] [(.ref r1), (.ref r1)])) rfl rfl (hb hby d11_25)
  have nz11 : b7_0 ≠ r1 := (ne_exa f7_0 ((P2.wr W4).keep K7) (by decide))
  obtain ⟨_, T12, L12, X12, hQ12, st12⟩ := own_cF X10 hx hZ hown (w111 hw) (w112 hw) (w113 hw) (w353 hw) (w354 hw) (w355 hw) (w356 hw) (w357 hw) (w338 hw) (w358 hw) (f7_0.wr W9) (rm47_1 l Z a0 hw b7_0 w_x1 w_NIL h9 n0 O9 (f7_2.other W9 (Or.inl nz11)) P16 P14 P17) e10 (hb hby d11_28) hml pd_15 [] [(.ref r1)] (g := (mkF m 28 #[.val (.ref r1), .val (.ref w_BOOLEAN), .val (.ref r2), .unset, .unset] [(.ref b7_0), (.ref r1)]))
  obtain ⟨rfl, N12q, e12⟩ := hQ12
  have N12 := Fr.app N9 N12q
  have fc13 := (((P5.other W4 (Or.inr (slot_ne (Or.inr (w124 hw)) (Or.inr (w81 hw)) (by decide) (t := .int) (t' := (.object sN12)) (by decide) (by decide)))).keep K7 nin0).other W9 (Or.inr (slot_ne (Or.inr (w124 hw)) (Or.inr (w110 hw)) (by decide) (t := .int) (t' := (.object sN3)) (by decide) (by decide))))
  obtain ⟨T14, h14, X14, e14, W14, st14⟩ := putF X12 hx hZ hown (host := "") (Or.inl (w123 hw)) Via.refl e12 fc13 (((P2.wr W4).keep K7).wr W9) (Or.inr ⟨(w124 hw), rfl, hnm⟩) (w65 hw) (ty := .int) (by decide) rfl rfl (g := (mkF m 33 #[.val (.ref r1), .val (.ref w_BOOLEAN), .val (.ref r2), .unset, .unset] [(.int (2 : Int32)), (.ref r1)])) rfl rfl (hb hby d11_33)
  have Fw14 := fc13.same W14
  have KK14 : Keep h0 h14 [r1] := KK9.wr W14 (Or.inl (List.mem_of_getElem? (i := 0) rfl))
  have O14 := O9.wr W14 P7
  have N14 := Fr.snoc X14 N12 P7
  have fc15 := ((((P6.other W4 (Or.inr (slot_ne (Or.inr (w126 hw)) (Or.inr (w81 hw)) (by decide) (t := (.object sN3)) (t' := (.object sN12)) (by decide) (by decide)))).keep K7 nin0).other W9 (Or.inr (slot_ne (Or.inr (w126 hw)) (Or.inr (w110 hw)) (by decide) (t := (.object sN3)) (t' := (.object sN3)) (by decide) (by decide)))).other W14 (Or.inr (slot_ne (Or.inr (w126 hw)) (Or.inr (w124 hw)) (by decide) (t := (.object sN3)) (t' := .int) (by decide) (by decide))))
  obtain ⟨T16, h16, X16, e16, W16, st16⟩ := putF X14 hx hZ hown (host := "") (Or.inl (w125 hw)) Via.refl e14 fc15 ((((P2.wr W4).keep K7).wr W9).wr W14) (Or.inr ⟨(w126 hw), rfl, hnm⟩) (w65 hw) (ty := (.object sN3)) (by decide) rfl rfl (g := (mkF m 38 #[.val (.ref r1), .val (.ref w_BOOLEAN), .val (.ref r2), .unset, .unset] [.null, (.ref r1)])) rfl rfl (hb hby d11_38)
  have Fw16 := fc15.same W16
  have KK16 : Keep h0 h16 [r1] := KK14.wr W16 (Or.inl (List.mem_of_getElem? (i := 0) rfl))
  have O16 := O14.wr W16 P7
  have N16 := Fr.snoc X16 N14 P7
  have fc17 := (((((P2.wr W4).keep K7).wr W9).wr W14).wr W16)
  have fc18 := ((Fw9.other W14 (Or.inr (slot_ne (Or.inr (w110 hw)) (Or.inr (w124 hw)) (by decide) (t := (.object sN3)) (t' := .int) (by decide) (by decide)))).other W16 (Or.inr (slot_ne (Or.inr (w110 hw)) (Or.inr (w126 hw)) (by decide) (t := (.object sN3)) (t' := (.object sN3)) (by decide) (by decide))))
  obtain ⟨T19, X19, e19, st19⟩ := getF X16 hx hZ hown (host := "") (Or.inl (w109 hw)) Via.refl e16 fc18 (g := (mkF m 42 #[.val (.ref r1), .val (.ref w_BOOLEAN), .val (.ref r2), .unset, .unset] [(.ref r1)])) rfl rfl (hb hby d11_42)
  have fc20 := (((f7_2.other W9 (Or.inl nz11)).other W14 (Or.inl nz11)).other W16 (Or.inl nz11))
  obtain ⟨_, T21, L21, X21, hQ21, st21⟩ := own_cF X19 hx hZ hown (w127 hw) (w128 hw) (w129 hw) (w359 hw) (w131 hw) (w132 hw) (w360 hw) (w357 hw) (w134 hw) (w135 hw) (((f7_0.wr W9).wr W14).wr W16) (rm18_2 l Z a0 hw b7_0 w_x1 w_NIL h16 n0 O16 (((f7_0.wr W9).wr W14).wr W16) fc20 P16 P14 P17) e19 (hb hby d11_45) hml pd_21 [] [] (g := (mkF m 45 #[.val (.ref r1), .val (.ref w_BOOLEAN), .val (.ref r2), .unset, .unset] [(.ref b7_0)]))
  obtain ⟨b21_0, rfl, N21q, K21, ge_b21_0, f21_0, f21_1, f21_2, f21_3, f21_4⟩ := hQ21
  have g_b21_0 : n0 ≤ b21_0 := Nat.le_trans ((O16.1 ▸ O16.2.1) : n0 ≤ h16.size) ge_b21_0
  have sz_b21_0 : h0.size ≤ b21_0 := Nat.le_trans KK16.1 ge_b21_0
  have KK21 : Keep h0 T21.heap [r1] := KK16.trans K21 all0
  have O21 := O16.keep K21 all0
  have N21 := Fr.app N16 N21q
  obtain ⟨_, T22, L22, X22, hQ22, st22⟩ := own_cF X21 hx hZ hown (w156 hw) (w157 hw) (w158 hw) (w159 hw) (w160 hw) (w161 hw) (w162 hw) (w163 hw) (w138 hw) (w164 hw) f21_0 (rm20_3 l Z a0 hw b21_0 T21.heap n0 O21 f21_3 f21_2) rfl (hb hby d11_52) hml pd_5 [] [] (g := (mkF m 52 #[.val (.ref r1), .val (.ref w_BOOLEAN), .val (.ref r2), .val (.ref b21_0), .unset] [(.ref b21_0)]))
  obtain ⟨rfl, N22q, e22⟩ := hQ22
  have N22 := Fr.app N21 N22q
  have fc23 := ((((f7_0.wr W9).wr W14).wr W16).keep K21)
  have fc24 := ((((f7_1.other W9 (Or.inl nz11)).other W14 (Or.inl nz11)).other W16 (Or.inl nz11)).keep K21 nin0)
  obtain ⟨cq25, kq25, q25a, q25b, q25c⟩ := isOf hZ e22 f21_0
  obtain ⟨_, _, ⟨T25, L25, k25, n25⟩, -, X25, ⟨Lc25, hQ25, l25, y25, z25⟩, st25⟩ := X22.interfaceBack hx (xi := yN6) (y := yN0) hown (mvT hZ (w223 hw)) (mvT hZ (w224 hw)) (mvT hZ (w225 hw)) (mvT hZ (w226 hw)) (mvT hZ (w227 hw)) (mvT hZ (w228 hw)) (mvT hZ (w229 hw)) (mvT hZ (w163 hw)) (by decide) (backOfWith (W := 0) (rm30_1 l Z a0 hw b21_0 b7_0 w_x0 T21.heap n0 O21 f21_3 f21_1 fc23 fc24 f21_0 f21_2 f21_4 g_b21_0) hZ (w230 hw) (w138 hw) (by decide) (by decide)) q25a q25b q25c (g := (mkF m 61 #[.val (.ref r1), .val (.ref w_BOOLEAN), .val (.ref r2), .val (.ref b21_0), .unset] [(.ref b21_0)])) rfl (by rw [hml]; rfl) (Steps.refl _) (argsL := []) (rest := []) (lenOf pd_49 rfl) rfl (by show 2 * 0 + _ ≤ _; exact Nat.le_of_eq rfl) (hb hby d11_61) (fun _ _ => ⟨rfl, e22, (by decide : 3 + 0 ≤ _), (by decide : 8 + 0 ≤ _)⟩)
  dsimp only [Pt.U, Pt.locs, Pt.cells, Pt.slots] at X25 l25 y25 z25 st25 hQ25
  subst l25 y25 z25
  obtain ⟨rfl, N25q, K25, f25_0, f25_1, f25_2, f25_3⟩ := hQ25
  have KK25 : Keep h0 T25.heap [r1] := KK21.trans K25 (allS (Or.inr sz_b21_0) all0)
  have O25 := O21.keep K25 (allS g_b21_0 all0)
  have N25 := Fr.app N22 N25q
  obtain ⟨T26, X26, e26, st26⟩ := castY X25 hx hZ hown (w239 hw) rfl (Ins.self (P15.ext O25.2)) (g := (mkF m 66 #[.val (.ref r1), .val (.ref w_BOOLEAN), .val (.ref r2), .val (.ref b21_0), .unset] [(.ref w_x0)])) rfl rfl (hb hby d11_66)
  obtain ⟨_, T27, L27, X27, hQ27, st27⟩ := own_cV X26 hx hZ hown (notFace_of_selects (args := #[]) (mvT hZ (w244 hw))) (w241 hw) (w242 hw) (w244 hw) (w243 hw) (w31 hw) (w245 hw) (P15.ext O25.2) (rm32_0 l Z a0 hw w_x0 w_BOOLEAN T25.heap n0 O25 P18) e26 (hb hby d11_73) hml pd_52 [] [] (g := (mkF m 73 #[.val (.ref r1), .val (.ref w_BOOLEAN), .val (.ref r2), .val (.ref b21_0), .val (.ref w_x0)] [(.ref w_x0)]))
  obtain ⟨rfl, N27q, e27⟩ := hQ27
  have N27 := Fr.app N25 N27q
  obtain ⟨_, T28, L28, X28, hQ28, st28⟩ := own_cF X27 hx hZ hown (w156 hw) (w157 hw) (w158 hw) (w159 hw) (w160 hw) (w161 hw) (w162 hw) (w163 hw) (w138 hw) (w164 hw) (f21_0.keep K25) (rm20_4 l Z a0 hw b21_0 T25.heap n0 O25 f25_0 f25_2) e27 (hb hby d11_52) hml pd_5 [] [] (g := (mkF m 52 #[.val (.ref r1), .val (.ref w_BOOLEAN), .val (.ref r2), .val (.ref b21_0), .val (.ref w_x0)] [(.ref b21_0)]))
  obtain ⟨rfl, N28q, e28⟩ := hQ28
  have N28 := Fr.app N27 N28q
  have nz29 : b7_0 ≠ b21_0 := (Nat.ne_of_lt (Nat.lt_of_lt_of_le (((f7_0.wr W9).wr W14).wr W16).lt ge_b21_0))
  have fc30 := ((fc20.keep K21 nin0).keep K25 (ninS nz29 nin0))
  obtain ⟨cq31, kq31, q31a, q31b, q31c⟩ := isOf hZ e28 (f21_0.keep K25)
  obtain ⟨_, _, ⟨T31, L31, k31, n31⟩, -, X31, ⟨Lc31, hQ31, l31, y31, z31⟩, st31⟩ := X28.interfaceBack hx (xi := yN6) (y := yN0) hown (mvT hZ (w223 hw)) (mvT hZ (w224 hw)) (mvT hZ (w225 hw)) (mvT hZ (w226 hw)) (mvT hZ (w227 hw)) (mvT hZ (w228 hw)) (mvT hZ (w229 hw)) (mvT hZ (w163 hw)) (by decide) (backOfWith (W := 0) (rm30_2 l Z a0 hw b21_0 b7_0 w_x1 w_NIL T25.heap n0 O25 f25_0 f25_1 (fc23.keep K25) fc30 P16 P14 P17 (f21_0.keep K25) f25_2 f25_3 g_b21_0) hZ (w230 hw) (w138 hw) (by decide) (by decide)) q31a q31b q31c (g := (mkF m 61 #[.val (.ref r1), .val (.ref w_BOOLEAN), .val (.ref r2), .val (.ref b21_0), .val (.ref w_x0)] [(.ref b21_0)])) rfl (by rw [hml]; rfl) (Steps.refl _) (argsL := []) (rest := []) (lenOf pd_49 rfl) rfl (by show 2 * 0 + _ ≤ _; exact Nat.le_of_eq rfl) (hb hby d11_61) (fun _ _ => ⟨rfl, e28, (by decide : 3 + 0 ≤ _), (by decide : 8 + 0 ≤ _)⟩)
  dsimp only [Pt.U, Pt.locs, Pt.cells, Pt.slots] at X31 l31 y31 z31 st31 hQ31
  subst l31 y31 z31
  obtain ⟨rfl, N31q, K31, f31_0, f31_1, f31_2, f31_3⟩ := hQ31
  have KK31 : Keep h0 T31.heap [r1] := KK25.trans K31 (allS (Or.inr sz_b21_0) all0)
  have O31 := O25.keep K31 (allS g_b21_0 all0)
  have N31 := Fr.app N28 N31q
  obtain ⟨T32, X32, e32, st32⟩ := castY X31 hx hZ hown (w239 hw) rfl (Ins.self (P14.ext O31.2)) (g := (mkF m 66 #[.val (.ref r1), .val (.ref w_BOOLEAN), .val (.ref r2), .val (.ref b21_0), .val (.ref w_x0)] [(.ref w_x1)])) rfl rfl (hb hby d11_66)
  obtain ⟨_, T33, L33, X33, hQ33, st33⟩ := own_cV X32 hx hZ hown (notFace_of_selects (args := #[]) (mvT hZ (w244 hw))) (w241 hw) (w242 hw) (w244 hw) (w243 hw) (w31 hw) (w245 hw) (P14.ext O31.2) (rm32_1 l Z a0 hw w_x1 w_BOOLEAN T31.heap n0 O31 P19) e32 (hb hby d11_73) hml pd_52 [] [] (g := (mkF m 73 #[.val (.ref r1), .val (.ref w_BOOLEAN), .val (.ref r2), .val (.ref b21_0), .val (.ref w_x1)] [(.ref w_x1)]))
  obtain ⟨rfl, N33q, e33⟩ := hQ33
  have N33 := Fr.app N31 N33q
  obtain ⟨_, T34, L34, X34, hQ34, st34⟩ := own_cF X33 hx hZ hown (w156 hw) (w157 hw) (w158 hw) (w159 hw) (w160 hw) (w161 hw) (w162 hw) (w163 hw) (w138 hw) (w164 hw) ((f21_0.keep K25).keep K31) (rm20_5 l Z a0 hw b21_0 T31.heap n0 O31 f31_0 f31_2) e33 (hb hby d11_52) hml pd_5 [] [] (g := (mkF m 52 #[.val (.ref r1), .val (.ref w_BOOLEAN), .val (.ref r2), .val (.ref b21_0), .val (.ref w_x1)] [(.ref b21_0)]))
  obtain ⟨rfl, N34q, e34⟩ := hQ34
  have N34 := Fr.app N33 N34q
  have nz35 : r1 ≠ b21_0 := (ne_exa (fc17.keep K21) f21_0 (by decide))
  have fc36 := (((((((Fw4.keep K7 nin0).other W9 (Or.inr (slot_ne (Or.inr (w81 hw)) (Or.inr (w110 hw)) (by decide) (t := (.object sN12)) (t' := (.object sN3)) (by decide) (by decide)))).other W14 (Or.inr (slot_ne (Or.inr (w81 hw)) (Or.inr (w124 hw)) (by decide) (t := (.object sN12)) (t' := .int) (by decide) (by decide)))).other W16 (Or.inr (slot_ne (Or.inr (w81 hw)) (Or.inr (w126 hw)) (by decide) (t := (.object sN12)) (t' := (.object sN3)) (by decide) (by decide)))).keep K21 nin0).keep K25 (ninS nz35 nin0)).keep K31 (ninS nz35 nin0))
  have fc37 := ((((Fw14.other W16 (Or.inr (slot_ne (Or.inr (w124 hw)) (Or.inr (w126 hw)) (by decide) (t := .int) (t' := (.object sN3)) (by decide) (by decide)))).keep K21 nin0).keep K25 (ninS nz35 nin0)).keep K31 (ninS nz35 nin0))
  have fc38 := (((Fw16.keep K21 nin0).keep K25 (ninS nz35 nin0)).keep K31 (ninS nz35 nin0))
  refine ⟨none, _, _, _, _, X34, (fun _ => rfl), ?_, by decide, by decide, fun fs hr => castTop (ef_11_RRR m r1 w_BOOLEAN r2) ?_⟩
  · show own_QB Z r1 w_BOOLEAN (2 : Int32) n0 h0 _ T34.heap _
    rw [e34]
    exact ⟨rfl, N34, KK31, fc36, fc37, fc38⟩
  · show Steps p.tables e below (s₁.setTop (mkF m 0 #[.val (.ref r1), .val (.ref w_BOOLEAN), .val (.ref r2), .unset, .unset] [])) _
    refine XS.aloadN X0.here hx rfl (hb hby d11_0) rfl rfl ?_
    refine st1 _ ?_
    refine XS.aloadN X1.here hx rfl (hb hby d11_4) rfl rfl ?_
    refine XS.aloadN X1.here hx rfl (hb hby d11_5) rfl rfl ?_
    refine st2 _ ?_
    refine st3 _ ?_
    refine st4 _ ?_
    refine XS.aloadN X4.here hx rfl (hb hby d11_15) rfl rfl ?_
    show Steps p.tables e below (T4.setTop (mkF m 16 #[.val (.ref r1), .val (.ref w_BOOLEAN), .val (.ref r2), .unset, .unset] [(.ref r1)])) _
    refine XS.aloadN X4.here hx rfl (hb hby d11_16) rfl rfl ?_
    refine st7 _ ?_
    refine st9 _ ?_
    refine XS.aloadN X9.here hx rfl (hb hby d11_23) rfl rfl ?_
    refine XS.aloadN X9.here hx rfl (hb hby d11_24) rfl rfl ?_
    refine st10 _ ?_
    refine st12 _ ?_
    refine st14 _ ?_
    show Steps p.tables e below (T14.setTop (mkF m 36 #[.val (.ref r1), .val (.ref w_BOOLEAN), .val (.ref r2), .unset, .unset] [])) _
    refine XS.aloadN X14.here hx rfl (hb hby d11_36) rfl rfl ?_
    refine XS.aconstNull X14.here hx rfl (hb hby d11_37) ?_
    refine st16 _ ?_
    refine XS.aloadN X16.here hx rfl (hb hby d11_41) rfl rfl ?_
    refine st19 _ ?_
    refine st21 _ ?_
    refine XS.astoreN X21.here hx rfl (hb hby d11_50) rfl rfl (l' := #[.val (.ref r1), .val (.ref w_BOOLEAN), .val (.ref r2), .val (.ref b21_0), .unset]) rfl ?_
    refine XS.aloadN X21.here hx rfl (hb hby d11_51) rfl rfl ?_
    show Steps p.tables e below (T21.setTop (mkF m 52 #[.val (.ref r1), .val (.ref w_BOOLEAN), .val (.ref r2), .val (.ref b21_0), .unset] [(.ref b21_0)])) _
    refine st22 _ ?_
    refine XS.ifNo X22.here hx rfl (hb hby d11_57) rfl (by decide) ?_
    refine XS.aloadN X22.here hx rfl (hb hby d11_60) rfl rfl ?_
    refine st25.trans ?_
    refine st26 _ ?_
    refine XS.astore X26.here hx rfl (hb hby d11_69) rfl rfl (l' := #[.val (.ref r1), .val (.ref w_BOOLEAN), .val (.ref r2), .val (.ref b21_0), .val (.ref w_x0)]) rfl ?_
    refine XS.aload X26.here hx rfl (hb hby d11_71) rfl rfl ?_
    refine st27 _ ?_
    show Steps p.tables e below (T27.setTop (mkF m 76 #[.val (.ref r1), .val (.ref w_BOOLEAN), .val (.ref r2), .val (.ref b21_0), .val (.ref w_x0)] [(.ref w_BOOLEAN)])) _
    refine XS.aloadN X27.here hx rfl (hb hby d11_76) rfl rfl ?_
    refine Jvm.RoadKit.acmp (g := (mkF m 77 #[.val (.ref r1), .val (.ref w_BOOLEAN), .val (.ref r2), .val (.ref b21_0), .val (.ref w_x0)] [(.ref w_BOOLEAN), (.ref w_BOOLEAN)])) X27 hx rfl rfl rfl (pc0 := 77) (pc' := 102) (same := true) rfl (hb hby d11_77) rfl (decide_eq_true rfl) (by decide) (by decide) ?_
    refine XS.goto X27.here hx rfl (pc0 := 102) (pc' := 51) rfl (hb hby d11_102) (by decide) (by decide) ?_
    refine XS.aloadN X27.here hx rfl (hb hby d11_51) rfl rfl ?_
    refine st28 _ ?_
    refine XS.ifNo X28.here hx rfl (hb hby d11_57) rfl (by decide) ?_
    refine XS.aloadN X28.here hx rfl (hb hby d11_60) rfl rfl ?_
    refine st31.trans ?_
    show Steps p.tables e below (T31.setTop (mkF m 66 #[.val (.ref r1), .val (.ref w_BOOLEAN), .val (.ref r2), .val (.ref b21_0), .val (.ref w_x0)] [(.ref w_x1)])) _
    refine st32 _ ?_
    refine XS.astore X32.here hx rfl (hb hby d11_69) rfl rfl (l' := #[.val (.ref r1), .val (.ref w_BOOLEAN), .val (.ref r2), .val (.ref b21_0), .val (.ref w_x1)]) rfl ?_
    refine XS.aload X32.here hx rfl (hb hby d11_71) rfl rfl ?_
    refine st33 _ ?_
    refine XS.aloadN X33.here hx rfl (hb hby d11_76) rfl rfl ?_
    refine Jvm.RoadKit.acmp (g := (mkF m 77 #[.val (.ref r1), .val (.ref w_BOOLEAN), .val (.ref r2), .val (.ref b21_0), .val (.ref w_x1)] [(.ref w_BOOLEAN), (.ref w_BOOLEAN)])) X33 hx rfl rfl rfl (pc0 := 77) (pc' := 102) (same := true) rfl (hb hby d11_77) rfl (decide_eq_true rfl) (by decide) (by decide) ?_
    refine XS.goto X33.here hx rfl (pc0 := 102) (pc' := 51) rfl (hb hby d11_102) (by decide) (by decide) ?_
    refine XS.aloadN X33.here hx rfl (hb hby d11_51) rfl rfl ?_
    show Steps p.tables e below (T33.setTop (mkF m 52 #[.val (.ref r1), .val (.ref w_BOOLEAN), .val (.ref r2), .val (.ref b21_0), .val (.ref w_x1)] [(.ref b21_0)])) _
    refine st34 _ ?_
    refine XS.ifYes X34.here hx rfl (pc0 := 57) (pc' := 105) rfl (hb hby d11_57) rfl (by decide) (by decide) (by decide) ?_
    exact X34.returnOut hx hret (hb hby d11_105) hr
theorem rm15_3 (l : Launch) (Z : State) (a0 : Array Value) (hw : own_HW a0 Z) (r1 : Addr) (h0 : Heap) (n0 : Nat) (O0 : Old Z n0 h0) (P1 : Fld Z h0 r1 sN0 "size" "I" (.int (3 : Int32))) :
    own_Ct l Z yN13 jdk_38_method_9_code 1 (some .boolean) ({ frames := 0, cells := 0, slots := 0, locals := 0 } : Room) #[(.ref r1)] h0 (own_QP (some (.int (0 : Int32))) n0 h0) := by
  refine own_enter (own := sN0) rfl (plainFor_of_name pn_3) ?_
  intro p e s m below meth c s₁ X0 hx hby hml hown hnm hret hZ e0
  have N0 := Fr.nil n0
  obtain ⟨T1, X1, e1, st1⟩ := getF X0 hx hZ hown (host := "") (Or.inl (w40 hw)) Via.refl e0 P1 (g := (mkF m 1 #[.val (.ref r1)] [(.ref r1)])) rfl rfl (hb hby d15_1)
  refine ⟨(some (.int (0 : Int32))), _, _, _, _, X1, (fun h => nomatch h), ?_, by decide, by decide, fun fs hr => castTop (ef_15_R m r1) ?_⟩
  · show own_QP (some (.int (0 : Int32))) n0 h0 _ T1.heap _
    rw [e1]
    exact ⟨rfl, N0, rfl⟩
  · show Steps p.tables e below (s₁.setTop (mkF m 0 #[.val (.ref r1)] [])) _
    refine XS.aloadN X0.here hx rfl (hb hby d15_0) rfl rfl ?_
    refine st1 _ ?_
    refine XS.ifYes X1.here hx rfl (pc0 := 4) (pc' := 11) rfl (hb hby d15_4) rfl (by decide) (by decide) (by decide) ?_
    refine XS.iconst X1.here hx rfl (hb hby d15_11) ?_
    exact retN X1 hx (t := .boolean) hret (by simp) (hb hby d15_12) hr
theorem rm24_2 (l : Launch) (Z : State) (a0 : Array Value) (hw : ∀ d ∈ tables_1, d.before a0 Z = true)  (h0 : Heap) (n0 : Nat) (O0 : Old Z n0 h0)  :
    MetFree l yN4 (head1 [Jvm.Cond.code yN4 jdk_29_method_69_code 2 (some .int)] ({ frames := 0, cells := 0, slots := 0, locals := 0 } : Room)) (fun a U => a = #[(.int (10 : Int32)), (.int (3 : Int32))] ∧ Z.Warmed39 U.vm ∧ U.heap = h0) (fun _ _ _ _ _ => True) (fun _ U o U' => ∃ v L, o = .returned v ∧ own_QP (some (.int (3 : Int32))) n0 h0 v U'.heap L ∧ FrameEnd U o U' L ({ frames := 0, cells := 0, slots := 0, locals := 0 } : Room).cells ({ frames := 0, cells := 0, slots := 0, locals := 0 } : Room).slots) := by
  refine MetFree.of_bodySF (Jvm.Free.JP.mathPlain rfl (by decide +kernel)) hisR ?_
  intro p e s m args below meth c s₁ Bd hml0 hP hK
  obtain ⟨rfl, hZ, hh⟩ := hP
  have hx := Bd.exec
  have hby := Bd.bytes
  have hml : c.maxLocals = 2 := hml0
  have hown : s.vm.findClass sN27 = some m.cls := findClass_of_methodNamed Bd.named
  have hnm := (name_of_methodNamed Bd.named Bd.method).1
  have X0 : Stand p l e ({ frames := 0, cells := 0, slots := 0, locals := 0 } : Room) s m #[(.int (10 : Int32)), (.int (3 : Int32))] below meth c s₁ [] 0 0 := Stand.of_body Bd
  have e0 : s₁.heap = h0 := by rw [← hh, Bd.state]; rfl
  have N0 := Fr.nil n0
  have pre0 : ∀ t, Steps p.tables e below (s₁.setTop (mkF m 0 #[.val (.int (10 : Int32)), .val (.int (3 : Int32))] [])) t → Steps p.tables e below (s₁.setTop (entryFrame m #[(.int (10 : Int32)), (.int (3 : Int32))] 2)) t := fun t k => castTop (ef_24_II m (10 : Int32) (3 : Int32)) k
  obtain ⟨fs, hr, hrun, hended, hW, hsame⟩ := X0.leave (v := (some (.int (3 : Int32)))) (fun h => by rw [Bd.returns] at h; cases h)
  refine ⟨_, _, pre0 _ ?_, hrun, hended, _, _, rfl, ?_, ⟨_, rfl⟩, hW, hsame.mono (by decide) (by decide)⟩
  · show Steps p.tables e below (s₁.setTop (mkF m 0 #[.val (.int (10 : Int32)), .val (.int (3 : Int32))] [])) _
    refine XS.iloadN X0.here hx rfl (hb hby d24_0) rfl ?_
    refine XS.iloadN X0.here hx rfl (hb hby d24_1) rfl ?_
    refine XS.icmpYes X0.here hx rfl (pc0 := 2) (pc' := 9) rfl (hb hby d24_2) rfl (by decide) (by decide) (by decide) ?_
    refine XS.iloadN X0.here hx rfl (hb hby d24_9) rfl ?_
    exact retI X0 hx Bd.returns (hb hby d24_10) hr
  · show own_QP (some (.int (3 : Int32))) n0 h0 _ s₁.heap _
    rw [e0]
    exact ⟨rfl, N0, rfl⟩
def Q_rm23_2 (Z : State) (r1 : Addr) (w_MIR : Addr) (w_x0 : Addr) (w_x1 : Addr) (w_x2 : Addr) (k_r1 : ClassId) (n0 : Nat) (h0 : Heap) (v : Option Value) (h : Heap) (L : List Loc) : Prop := ∃ b2 : Addr, ∃ k2 : ClassId, v = (some (.ref b2)) ∧ Fr n0 L ∧ Keep h0 h [] ∧ h0.size ≤ b2 ∧ Exa Z h b2 sN4 ∧ Arv Z h b2 k2 (.object sN1) (3 : Int32) [(.ref w_x0), (.ref w_x1), (.ref w_x2)] .null ∧ Ovr Z k2 sN1
theorem rm23_2 (l : Launch) (Z : State) (a0 : Array Value) (hw : own_HW a0 Z) (r1 : Addr) (w_MIR : Addr) (w_x0 : Addr) (w_x1 : Addr) (w_x2 : Addr) (k_r1 : ClassId) (h0 : Heap) (n0 : Nat) (O0 : Old Z n0 h0) (P1 : Mir Z sN4 w_MIR) (P2 : Arv Z h0 r1 k_r1 (.object sN1) (10 : Int32) [(.ref w_x0), (.ref w_x1), (.ref w_x2), .null, .null, .null, .null, .null, .null, .null] .null) (P3 : Exa Z Z.heap w_x2 sN9) (P4 : Exa Z Z.heap w_x1 sN9) (P5 : Exa Z Z.heap w_x0 sN9) :
    own_Ct l Z yN21 jdk_65_method_120_code 4 (some (.array (.object sN1))) ({ frames := 1, cells := 1, slots := 3, locals := 60 } : Room) #[(.ref r1), (.int (3 : Int32)), (.ref w_MIR)] h0 (Q_rm23_2 Z r1 w_MIR w_x0 w_x1 w_x2 k_r1 n0 h0) := by
  refine own_enter (own := sN20) rfl (plainFor_of_name pn_27) ?_
  intro p e s m below meth c s₁ X0 hx hby hml hown hnm hret hZ e0
  have N0 := Fr.nil n0
  obtain ⟨T1, X1, e1, st1⟩ := own_ldcM X0 hx hZ hown (w186 hw) e0 P1 (g := (mkF m 1 #[.val (.ref r1), .val (.int (3 : Int32)), .val (.ref w_MIR), .unset] [(.ref w_MIR)])) rfl (hb hby d23_1)
  obtain ⟨T2, h2, k2, X2, e2, E2, A2, Ea2, Ov2, st2⟩ := newRE X1 hx hZ hown (w187 hw) (w62 hw) e1 (g := (mkF m 7 #[.val (.ref r1), .val (.int (3 : Int32)), .val (.ref w_MIR), .unset] [(.int (3 : Int32))])) rfl (hb hby d23_7) rfl (by decide) (cap := 3) (by decide) (by decide) (by decide) (by decide) (ad := sN4) (by decide)
  obtain ⟨b2, gq2⟩ : ∃ z, z = h0.size := ⟨_, rfl⟩
  rw [← gq2] at A2 st2 Ea2
  have g_b2 : n0 ≤ b2 := Nat.le_trans ((O0.1 ▸ O0.2.1) : n0 ≤ h0.size) (Nat.le_of_eq gq2.symm)
  have sz_b2 : h0.size ≤ b2 := Nat.le_trans (Keep.refl h0 []).1 (Nat.le_of_eq gq2.symm)
  have KK2 : Keep h0 h2 [] := (Keep.refl h0 []).ext E2
  have O2 := O0.ext E2
  have V2 : Arv Z h2 b2 k2 (.object sN1) (3 : Int32) [.null, .null, .null] .null := (Arv.new A2 (by decide)).pad (pad_rep [] .null 3)
  obtain ⟨cl3, Ar3, -, Sr3, Nr3, -, -⟩ := id (P2.ext E2)
  obtain ⟨_, T4, L4, X4, hQ4, st4⟩ := own_cS X2 hx hZ hown (w188 hw) (w189 hw) (w59 hw) (w190 hw) (rm24_2 l Z a0 hw  h2 n0 O2 ) e2 (hb hby d23_32) hml pd_26 [(.int (10 : Int32)), (.int (3 : Int32))] [(.int (0 : Int32)), (.ref b2), (.int (0 : Int32)), (.ref r1)] (g := (mkF m 32 #[.val (.ref r1), .val (.int (3 : Int32)), .val (.ref w_MIR), .val (.ref b2)] [(.int (3 : Int32)), (.int (10 : Int32)), (.int (0 : Int32)), (.ref b2), (.int (0 : Int32)), (.ref r1)]))
  obtain ⟨rfl, N4q, e4⟩ := hQ4
  have N4 := Fr.app N0 N4q
  obtain ⟨cb5, Ab5, qb5, -⟩ := id V2
  obtain ⟨T6, h6, L6, X6, e6, N6, K6, V6, st6⟩ := cpA X4 hx hZ hown (w191 hw) (w194 hw) (w192 hw) (w193 hw) e4 (us := [(.ref w_x0), (.ref w_x1), (.ref w_x2)]) (P2.ext E2) V2 (Or.inr ⟨rfl, rfl, ⟨Sto.ofV Ab5 qb5 Ov2 (Ins.of_exa (P5.ext O2.2) (w63 hw)), ⟨Sto.ofV Ab5 qb5 Ov2 (Ins.of_exa (P4.ext O2.2) (w63 hw)), ⟨Sto.ofV Ab5 qb5 Ov2 (Ins.of_exa (P3.ext O2.2) (w63 hw)), trivial⟩⟩⟩⟩) (by decide) (by decide) (by decide) (by decide) (by decide) rfl (by decide) N4 g_b2 (g := (mkF m 35 #[.val (.ref r1), .val (.int (3 : Int32)), .val (.ref w_MIR), .val (.ref b2)] [(.int (3 : Int32)), (.int (0 : Int32)), (.ref b2), (.int (0 : Int32)), (.ref r1)])) rfl (by rw [hml]; rfl) rfl (hb hby d23_35) (by decide) (W := 0) (by show 2 * 0 + _ ≤ _; exact Nat.le_of_eq rfl) (by decide)
  have KK6 : Keep h0 h6 [] := KK2.trans K6 (allS (Or.inr sz_b2) all0)
  have O6 := O2.keep K6 (allS g_b2 all0)
  refine ⟨(some (.ref b2)), _, _, _, _, X6, (fun h => nomatch h), ?_, by decide, by decide, fun fs hr => castTop (ef_23_RIR m r1 (3 : Int32) w_MIR) ?_⟩
  · show Q_rm23_2 Z r1 w_MIR w_x0 w_x1 w_x2 k_r1 n0 h0 _ T6.heap _
    rw [e6]
    exact ⟨b2, k2, rfl, N6, KK6, sz_b2, (Ea2.keep K6), V6, Ov2⟩
  · show Steps p.tables e below (s₁.setTop (mkF m 0 #[.val (.ref r1), .val (.int (3 : Int32)), .val (.ref w_MIR), .unset] [])) _
    refine XS.aloadN X0.here hx rfl (hb hby d23_0) rfl rfl ?_
    refine st1 _ ?_
    refine Jvm.RoadKit.acmp (g := (mkF m 3 #[.val (.ref r1), .val (.int (3 : Int32)), .val (.ref w_MIR), .unset] [(.ref w_MIR), (.ref w_MIR)])) X1 hx rfl rfl rfl (pc0 := 3) (pc' := 6) (same := true) rfl (hb hby d23_3) rfl (decide_eq_true rfl) (by decide) (by decide) ?_
    refine XS.iloadN X1.here hx rfl (hb hby d23_6) rfl ?_
    refine st2 _ ?_
    refine XS.goto X2.here hx rfl (pc0 := 10) (pc' := 24) rfl (hb hby d23_10) (by decide) (by decide) ?_
    refine XS.astoreN X2.here hx rfl (hb hby d23_24) rfl rfl (l' := #[.val (.ref r1), .val (.int (3 : Int32)), .val (.ref w_MIR), .val (.ref b2)]) rfl ?_
    refine XS.aloadN X2.here hx rfl (hb hby d23_25) rfl rfl ?_
    show Steps p.tables e below (T2.setTop (mkF m 26 #[.val (.ref r1), .val (.int (3 : Int32)), .val (.ref w_MIR), .val (.ref b2)] [(.ref r1)])) _
    refine XS.iconst X2.here hx rfl (hb hby d23_26) ?_
    refine XS.aloadN X2.here hx rfl (hb hby d23_27) rfl rfl ?_
    refine XS.iconst X2.here hx rfl (hb hby d23_28) ?_
    refine XS.aloadN X2.here hx rfl (hb hby d23_29) rfl rfl ?_
    refine X2.arraylength hx (by rw [e2]; exact Ar3.1) (State.isArrayOf_alike hZ.alike Ar3.2.1) (g := (mkF m 30 #[.val (.ref r1), .val (.int (3 : Int32)), .val (.ref w_MIR), .val (.ref b2)] [(.ref r1), (.int (0 : Int32)), (.ref b2), (.int (0 : Int32)), (.ref r1)])) rfl rfl (hb hby d23_30) _ ?_
    rw [len_of Sr3 Nr3]
    refine XS.iloadN X2.here hx rfl (hb hby d23_31) rfl ?_
    refine st4 _ ?_
    refine st6 _ ?_
    show Steps p.tables e below (T6.setTop (mkF m 38 #[.val (.ref r1), .val (.int (3 : Int32)), .val (.ref w_MIR), .val (.ref b2)] [])) _
    refine XS.aloadN X6.here hx rfl (hb hby d23_38) rfl rfl ?_
    exact retA X6 hx hret rfl rfl rfl (hb hby d23_39) hr
def Q_rm22_2 (Z : State) (r1 : Addr) (w_MIR : Addr) (w_x0 : Addr) (w_x1 : Addr) (w_x2 : Addr) (k_r1 : ClassId) (n0 : Nat) (h0 : Heap) (v : Option Value) (h : Heap) (L : List Loc) : Prop := ∃ b2_0 : Addr, ∃ kc2_0 : ClassId, v = (some (.ref b2_0)) ∧ Fr n0 L ∧ Keep h0 h [] ∧ h0.size ≤ b2_0 ∧ Exa Z h b2_0 sN4 ∧ Arv Z h b2_0 kc2_0 (.object sN1) (3 : Int32) [(.ref w_x0), (.ref w_x1), (.ref w_x2)] .null ∧ Ovr Z kc2_0 sN1
theorem rm22_2 (l : Launch) (Z : State) (a0 : Array Value) (hw : own_HW a0 Z) (r1 : Addr) (w_MIR : Addr) (w_x0 : Addr) (w_x1 : Addr) (w_x2 : Addr) (k_r1 : ClassId) (h0 : Heap) (n0 : Nat) (O0 : Old Z n0 h0) (P1 : Exa Z h0 r1 sN4) (P2 : Mir Z sN4 w_MIR) (P3 : Arv Z h0 r1 k_r1 (.object sN1) (10 : Int32) [(.ref w_x0), (.ref w_x1), (.ref w_x2), .null, .null, .null, .null, .null, .null, .null] .null) (P4 : Exa Z Z.heap w_x2 sN9) (P5 : Exa Z Z.heap w_x1 sN9) (P6 : Exa Z Z.heap w_x0 sN9) :
    own_Ct l Z yN20 jdk_65_method_119_code 2 (some (.array (.object sN1))) ({ frames := 2, cells := 1, slots := 3, locals := 75 } : Room) #[(.ref r1), (.int (3 : Int32))] h0 (Q_rm22_2 Z r1 w_MIR w_x0 w_x1 w_x2 k_r1 n0 h0) := by
  refine own_enter (own := sN20) rfl (plainFor_of_name pn_27) ?_
  intro p e s m below meth c s₁ X0 hx hby hml hown hnm hret hZ e0
  have N0 := Fr.nil n0
  obtain ⟨T1, X1, e1, st1⟩ := gcls X0 hx hZ hown (w177 hw) (w178 hw) (w94 hw) (w180 hw) (w179 hw) (w181 hw) e0 P1 P2 (g := (mkF m 3 #[.val (.ref r1), .val (.int (3 : Int32))] [(.ref r1), (.int (3 : Int32)), (.ref r1)])) rfl (by rw [hml]; rfl) rfl (hb hby d22_3) (by decide) (W := 2) (by show 2 * 0 + _ ≤ _; exact Nat.le_of_eq rfl) (by decide)
  obtain ⟨_, T2, L2, X2, hQ2, st2⟩ := own_cS X1 hx hZ hown (w183 hw) (w184 hw) (w175 hw) (w185 hw) (rm23_2 l Z a0 hw r1 w_MIR w_x0 w_x1 w_x2 k_r1 h0 n0 O0 P2 P3 P4 P5 P6) e1 (hb hby d22_6) hml pd_29 [(.ref r1), (.int (3 : Int32)), (.ref w_MIR)] [] (g := (mkF m 6 #[.val (.ref r1), .val (.int (3 : Int32))] [(.ref w_MIR), (.int (3 : Int32)), (.ref r1)]))
  obtain ⟨b2_0, kc2_0, rfl, N2q, K2, ge_b2_0, f2_0, f2_1, ov2_1⟩ := hQ2
  have g_b2_0 : n0 ≤ b2_0 := Nat.le_trans ((O0.1 ▸ O0.2.1) : n0 ≤ h0.size) ge_b2_0
  have sz_b2_0 : h0.size ≤ b2_0 := Nat.le_trans (Keep.refl h0 []).1 ge_b2_0
  have KK2 : Keep h0 T2.heap [] := (Keep.refl h0 []).trans K2 all0
  have O2 := O0.keep K2 all0
  have N2 := Fr.app N0 N2q
  refine ⟨(some (.ref b2_0)), _, _, _, _, X2, (fun h => nomatch h), ?_, by decide, by decide, fun fs hr => castTop (ef_22_RI m r1 (3 : Int32)) ?_⟩
  · show Q_rm22_2 Z r1 w_MIR w_x0 w_x1 w_x2 k_r1 n0 h0 _ T2.heap _
    exact ⟨b2_0, kc2_0, rfl, N2, KK2, sz_b2_0, f2_0, f2_1, ov2_1⟩
  · show Steps p.tables e below (s₁.setTop (mkF m 0 #[.val (.ref r1), .val (.int (3 : Int32))] [])) _
    refine XS.aloadN X0.here hx rfl (hb hby d22_0) rfl rfl ?_
    refine XS.iloadN X0.here hx rfl (hb hby d22_1) rfl ?_
    refine XS.aloadN X0.here hx rfl (hb hby d22_2) rfl rfl ?_
    refine st1 _ ?_
    refine st2 _ ?_
    exact retA X2 hx hret rfl rfl rfl (hb hby d22_9) hr
def Q_rm21_2 (Z : State) (r1 : Addr) (r2 : Addr) (w_MIR : Addr) (w_x0 : Addr) (w_x1 : Addr) (w_x2 : Addr) (k_r2 : ClassId) (n0 : Nat) (h0 : Heap) (v : Option Value) (h : Heap) (L : List Loc) : Prop := ∃ b3_0 : Addr, ∃ kc3_0 : ClassId, v = (some (.ref b3_0)) ∧ Fr n0 L ∧ Keep h0 h [] ∧ h0.size ≤ b3_0 ∧ Exa Z h b3_0 sN4 ∧ Arv Z h b3_0 kc3_0 (.object sN1) (3 : Int32) [(.ref w_x0), (.ref w_x1), (.ref w_x2)] .null ∧ Ovr Z kc3_0 sN1
theorem rm21_2 (l : Launch) (Z : State) (a0 : Array Value) (hw : own_HW a0 Z) (r1 : Addr) (r2 : Addr) (w_MIR : Addr) (w_x0 : Addr) (w_x1 : Addr) (w_x2 : Addr) (k_r2 : ClassId) (h0 : Heap) (n0 : Nat) (O0 : Old Z n0 h0) (P1 : Fld Z h0 r1 sN0 "elementData" sN4 (.ref r2)) (P2 : Fld Z h0 r1 sN0 "size" "I" (.int (3 : Int32))) (P3 : Exa Z h0 r2 sN4) (P4 : Mir Z sN4 w_MIR) (P5 : Arv Z h0 r2 k_r2 (.object sN1) (10 : Int32) [(.ref w_x0), (.ref w_x1), (.ref w_x2), .null, .null, .null, .null, .null, .null, .null] .null) (P6 : Exa Z Z.heap w_x2 sN9) (P7 : Exa Z Z.heap w_x1 sN9) (P8 : Exa Z Z.heap w_x0 sN9) :
    own_Ct l Z yN14 jdk_38_method_16_code 1 (some (.array (.object sN1))) ({ frames := 3, cells := 1, slots := 3, locals := 88 } : Room) #[(.ref r1)] h0 (Q_rm21_2 Z r1 r2 w_MIR w_x0 w_x1 w_x2 k_r2 n0 h0) := by
  refine own_enter (own := sN0) rfl (plainFor_of_name pn_3) ?_
  intro p e s m below meth c s₁ X0 hx hby hml hown hnm hret hZ e0
  have N0 := Fr.nil n0
  obtain ⟨T1, X1, e1, st1⟩ := getF X0 hx hZ hown (host := "") (Or.inl (w24 hw)) Via.refl e0 P1 (g := (mkF m 1 #[.val (.ref r1)] [(.ref r1)])) rfl rfl (hb hby d21_1)
  obtain ⟨T2, X2, e2, st2⟩ := getF X1 hx hZ hown (host := "") (Or.inl (w40 hw)) Via.refl e1 P2 (g := (mkF m 5 #[.val (.ref r1)] [(.ref r1), (.ref r2)])) rfl rfl (hb hby d21_5)
  obtain ⟨_, T3, L3, X3, hQ3, st3⟩ := own_cS X2 hx hZ hown (w173 hw) (w174 hw) (w175 hw) (w176 hw) (rm22_2 l Z a0 hw r2 w_MIR w_x0 w_x1 w_x2 k_r2 h0 n0 O0 P3 P4 P5 P6 P7 P8) e2 (hb hby d21_8) hml pd_31 [(.ref r2), (.int (3 : Int32))] [] (g := (mkF m 8 #[.val (.ref r1)] [(.int (3 : Int32)), (.ref r2)]))
  obtain ⟨b3_0, kc3_0, rfl, N3q, K3, ge_b3_0, f3_0, f3_1, ov3_1⟩ := hQ3
  have g_b3_0 : n0 ≤ b3_0 := Nat.le_trans ((O0.1 ▸ O0.2.1) : n0 ≤ h0.size) ge_b3_0
  have sz_b3_0 : h0.size ≤ b3_0 := Nat.le_trans (Keep.refl h0 []).1 ge_b3_0
  have KK3 : Keep h0 T3.heap [] := (Keep.refl h0 []).trans K3 all0
  have O3 := O0.keep K3 all0
  have N3 := Fr.app N0 N3q
  refine ⟨(some (.ref b3_0)), _, _, _, _, X3, (fun h => nomatch h), ?_, by decide, by decide, fun fs hr => castTop (ef_21_R m r1) ?_⟩
  · show Q_rm21_2 Z r1 r2 w_MIR w_x0 w_x1 w_x2 k_r2 n0 h0 _ T3.heap _
    exact ⟨b3_0, kc3_0, rfl, N3, KK3, sz_b3_0, f3_0, f3_1, ov3_1⟩
  · show Steps p.tables e below (s₁.setTop (mkF m 0 #[.val (.ref r1)] [])) _
    refine XS.aloadN X0.here hx rfl (hb hby d21_0) rfl rfl ?_
    refine st1 _ ?_
    refine XS.aloadN X1.here hx rfl (hb hby d21_4) rfl rfl ?_
    refine st2 _ ?_
    refine st3 _ ?_
    exact retA X3 hx hret rfl rfl rfl (hb hby d21_11) hr
theorem rm12_3 (l : Launch) (Z : State) (a0 : Array Value) (hw : own_HW a0 Z) (w_x2 : Addr) (h0 : Heap) (n0 : Nat) (O0 : Old Z n0 h0)  :
    own_Ct l Z yN5 jdk_31_method_10_code 1 (some (.object sN1)) ({ frames := 0, cells := 0, slots := 0, locals := 0 } : Room) #[(.ref w_x2)] h0 (own_QP (some (.ref w_x2)) n0 h0) := by
  refine own_enter (own := sN25) rfl (plainFor_of_name pn_0) ?_
  intro p e s m below meth c s₁ X0 hx hby hml hown hnm hret hZ e0
  have N0 := Fr.nil n0
  refine ⟨(some (.ref w_x2)), _, _, _, _, X0, (fun h => nomatch h), ?_, by decide, by decide, fun fs hr => castTop (ef_12_R m w_x2) ?_⟩
  · show own_QP (some (.ref w_x2)) n0 h0 _ s₁.heap _
    rw [e0]
    exact ⟨rfl, N0, rfl⟩
  · show Steps p.tables e below (s₁.setTop (mkF m 0 #[.val (.ref w_x2)] [])) _
    refine XS.aloadN X0.here hx rfl (hb hby d12_0) rfl rfl ?_
    refine XS.ifnonnullYes X0.here hx rfl (pc0 := 1) (pc' := 12) rfl (hb hby d12_1) rfl (by decide) (by decide) ?_
    refine XS.aloadN X0.here hx rfl (hb hby d12_12) rfl rfl ?_
    exact retA X0 hx hret rfl rfl rfl (hb hby d12_13) hr
def Q_rm27_0 (Z : State) (r1 : Addr) (r2 : Addr) (n0 : Nat) (h0 : Heap) (v : Option Value) (h : Heap) (L : List Loc) : Prop := v = none ∧ Fr n0 L ∧ Keep h0 h [r1] ∧ Fld Z h r1 sN7 "elements" sN4 (.ref r2) ∧ Fld Z h r1 sN7 "allowNulls" "Z" (.int (0 : Int32))
theorem rm27_0 (l : Launch) (Z : State) (a0 : Array Value) (hw : own_HW a0 Z) (r1 : Addr) (r2 : Addr) (h0 : Heap) (n0 : Nat) (O0 : Old Z n0 h0) (P1 : Exa Z h0 r1 sN7) (P2 : Fld Z h0 r1 sN7 "elements" sN4 .null) (P3 : Fld Z h0 r1 sN7 "allowNulls" "Z" (.int (0 : Int32))) (P4 : n0 ≤ r1) :
    own_Ct l Z yN49 jdk_45_method_1_code 3 none ({ frames := 4, cells := 0, slots := 0, locals := 48 } : Room) #[(.ref r1), (.ref r2), (.int (0 : Int32))] h0 (Q_rm27_0 Z r1 r2 n0 h0) := by
  refine own_enter (own := sN7) rfl (plainFor_of_name pn_13) ?_
  intro p e s m below meth c s₁ X0 hx hby hml hown hnm hret hZ e0
  have N0 := Fr.nil n0
  obtain ⟨_, T1, L1, X1, hQ1, st1⟩ := own_cI X0 hx hZ hown rfl (w208 hw) (w209 hw) (w134 hw) (w212 hw) (rm28_0 l Z a0 hw r1 h0 n0 O0 ) e0 (hb hby d27_1) hml pd_36 [] [] (g := (mkF m 1 #[.val (.ref r1), .val (.ref r2), .val (.int (0 : Int32))] [(.ref r1)]))
  obtain ⟨rfl, N1q, e1⟩ := hQ1
  have N1 := Fr.app N0 N1q
  obtain ⟨T2, h2, X2, e2, W2, st2⟩ := putF X1 hx hZ hown (host := "") (Or.inl (w121 hw)) Via.refl e1 P2 P1 (Or.inr ⟨(w122 hw), rfl, hnm⟩) (w203 hw) (ty := (.array (.object sN1))) (by decide) rfl rfl (g := (mkF m 6 #[.val (.ref r1), .val (.ref r2), .val (.int (0 : Int32))] [(.ref r2), (.ref r1)])) rfl rfl (hb hby d27_6)
  have Fw2 := P2.same W2
  have KK2 : Keep h0 h2 [r1] := (Keep.refl h0 [r1]).wr W2 (Or.inl (List.mem_of_getElem? (i := 0) rfl))
  have O2 := O0.wr W2 P4
  have N2 := Fr.snoc X2 N1 P4
  have fc3 := (P3.other W2 (Or.inr (slot_ne (Or.inr (w222 hw)) (Or.inr (w122 hw)) (by decide) (t := .boolean) (t' := (.array (.object sN1))) (by decide) (by decide))))
  obtain ⟨T4, h4, X4, e4, W4, st4⟩ := putFN X2 hx hZ hown (w221 hw) Via.refl e2 fc3 (P1.wr W2) (Or.inr ⟨(w222 hw), rfl, hnm⟩) (w203 hw) (ty := .boolean) (v' := (.int (0 : Int32))) (by decide) (by decide) (by decide) (g := (mkF m 11 #[.val (.ref r1), .val (.ref r2), .val (.int (0 : Int32))] [(.int (0 : Int32)), (.ref r1)])) rfl rfl (hb hby d27_11)
  have Fw4 := fc3.same W4
  have KK4 : Keep h0 h4 [r1] := KK2.wr W4 (Or.inl (List.mem_of_getElem? (i := 0) rfl))
  have O4 := O2.wr W4 P4
  have N4 := Fr.snoc X4 N2 P4
  have fc5 := (Fw2.other W4 (Or.inr (slot_ne (Or.inr (w122 hw)) (Or.inr (w222 hw)) (by decide) (t := (.array (.object sN1))) (t' := .boolean) (by decide) (by decide))))
  refine ⟨none, _, _, _, _, X4, (fun _ => rfl), ?_, by decide, by decide, fun fs hr => castTop (ef_27_RRI m r1 r2 (0 : Int32)) ?_⟩
  · show Q_rm27_0 Z r1 r2 n0 h0 _ T4.heap _
    rw [e4]
    exact ⟨rfl, N4, KK4, fc5, Fw4⟩
  · show Steps p.tables e below (s₁.setTop (mkF m 0 #[.val (.ref r1), .val (.ref r2), .val (.int (0 : Int32))] [])) _
    refine XS.aloadN X0.here hx rfl (hb hby d27_0) rfl rfl ?_
    refine st1 _ ?_
    refine XS.aloadN X1.here hx rfl (hb hby d27_4) rfl rfl ?_
    refine XS.aloadN X1.here hx rfl (hb hby d27_5) rfl rfl ?_
    refine st2 _ ?_
    refine XS.aloadN X2.here hx rfl (hb hby d27_9) rfl rfl ?_
    refine XS.iloadN X2.here hx rfl (hb hby d27_10) rfl ?_
    refine st4 _ ?_
    show Steps p.tables e below (T4.setTop (mkF m 14 #[.val (.ref r1), .val (.ref r2), .val (.int (0 : Int32))] [])) _
    exact X4.returnOut hx hret (hb hby d27_14) hr
def Q_rm26_0 (Z : State) (r1 : Addr) (w_x0 : Addr) (w_x1 : Addr) (w_x2 : Addr) (k_r1 : ClassId) (n0 : Nat) (h0 : Heap) (v : Option Value) (h : Heap) (L : List Loc) : Prop := ∃ b21 : Addr, ∃ b2 : Addr, ∃ k2 : ClassId, v = (some (.ref b21)) ∧ Fr n0 L ∧ Keep h0 h [] ∧ h0.size ≤ b21 ∧ h0.size ≤ b2 ∧ Exa Z h b2 sN4 ∧ Arv Z h b2 k2 (.object sN1) (3 : Int32) [(.ref w_x0), (.ref w_x1), (.ref w_x2)] .null ∧ Ovr Z k2 sN1 ∧ Exa Z h b21 sN7 ∧ Fld Z h b21 sN7 "elements" sN4 (.ref b2) ∧ Fld Z h b21 sN7 "allowNulls" "Z" (.int (0 : Int32))
theorem rm26_0 (l : Launch) (Z : State) (a0 : Array Value) (hw : own_HW a0 Z) (r1 : Addr) (w_x0 : Addr) (w_x1 : Addr) (w_x2 : Addr) (k_r1 : ClassId) (h0 : Heap) (n0 : Nat) (O0 : Old Z n0 h0) (P1 : Ovr Z k_r1 sN1) (P2 : Arv Z h0 r1 k_r1 (.object sN1) (3 : Int32) [(.ref w_x0), (.ref w_x1), (.ref w_x2)] .null) (P3 : Exa Z Z.heap w_x0 sN9) (P4 : Exa Z Z.heap w_x1 sN9) (P5 : Exa Z Z.heap w_x2 sN9) :
    own_Ct l Z yN48 jdk_56_method_4_code 3 (some (.object sN3)) ({ frames := 5, cells := 2, slots := 5, locals := 63 } : Room) #[(.ref r1)] h0 (Q_rm26_0 Z r1 w_x0 w_x1 w_x2 k_r1 n0 h0) := by
  refine own_enter (own := sN14) rfl (plainFor_of_name pn_9) ?_
  intro p e s m below meth c s₁ X0 hx hby hml hown hnm hret hZ e0
  have N0 := Fr.nil n0
  obtain ⟨cl1, Ar1, -, Sr1, Nr1, -, -⟩ := id P2
  obtain ⟨T2, h2, k2, X2, e2, E2, A2, Ea2, Ov2, st2⟩ := newRE X0 hx hZ hown (w201 hw) (w62 hw) e0 (g := (mkF m 2 #[.val (.ref r1), .unset, .unset] [(.int (3 : Int32))])) rfl (hb hby d26_2) rfl (by decide) (cap := 3) (by decide) (by decide) (by decide) (by decide) (ad := sN4) (by decide)
  obtain ⟨b2, gq2⟩ : ∃ z, z = h0.size := ⟨_, rfl⟩
  rw [← gq2] at A2 st2 Ea2
  have g_b2 : n0 ≤ b2 := Nat.le_trans ((O0.1 ▸ O0.2.1) : n0 ≤ h0.size) (Nat.le_of_eq gq2.symm)
  have sz_b2 : h0.size ≤ b2 := Nat.le_trans (Keep.refl h0 []).1 (Nat.le_of_eq gq2.symm)
  have KK2 : Keep h0 h2 [] := (Keep.refl h0 []).ext E2
  have O2 := O0.ext E2
  have V2 : Arv Z h2 b2 k2 (.object sN1) (3 : Int32) [.null, .null, .null] .null := (Arv.new A2 (by decide)).pad (pad_rep [] .null 3)
  obtain ⟨cl3, Ar3, -, Sr3, Nr3, -, -⟩ := id (P2.ext E2)
  obtain ⟨cl4, Ar4, -, Sr4, -, Hr4, -⟩ := id (P2.ext E2)
  have hin4 : ¬ ((0 : Int32) < 0 ∨ cl4.slots.size ≤ ((0 : Int32) : Int32).toNatClampNeg) := inb_of Sr4 ⟨by decide, by decide⟩
  have hat4 : cl4.slots[((0 : Int32) : Int32).toNatClampNeg]? = some (.ref w_x0) := Has.at Hr4 hin4 rfl
  obtain ⟨_, T5, L5, X5, hQ5, st5⟩ := own_cS X2 hx hZ hown (w202 hw) (w75 hw) (w76 hw) (w77 hw) (rm12_1 l Z a0 hw w_x0 h2 n0 O2 ) e2 (hb hby d26_19) hml pd_2 [(.ref w_x0)] [(.int (0 : Int32)), (.ref b2)] (g := (mkF m 19 #[.val (.ref r1), .val (.ref b2), .val (.int (0 : Int32))] [(.ref w_x0), (.int (0 : Int32)), (.ref b2)]))
  obtain ⟨rfl, N5q, e5⟩ := hQ5
  have N5 := Fr.app N0 N5q
  obtain ⟨cl6, Ar6, qr6, Sr6, Nr6, Hr6, Gr6⟩ := id V2
  have hin6 : ¬ ((0 : Int32) < 0 ∨ cl6.slots.size ≤ ((0 : Int32) : Int32).toNatClampNeg) := inb_of Sr6 ⟨by decide, by decide⟩
  obtain ⟨T7, h7, X7, e7, W7, st7⟩ := stR X5 hx hZ e5 Ar6 (j := (0 : Int32)) hin6 rfl (Sto.ofV Ar6 qr6 Ov2 (Ins.of_exa (P3.ext O2.2) (w63 hw))) (g := (mkF m 22 #[.val (.ref r1), .val (.ref b2), .val (.int (0 : Int32))] [(.ref w_x0), (.int (0 : Int32)), (.ref b2)])) rfl rfl (hb hby d26_22)
  have V7 : Arv Z h7 b2 k2 (.object sN1) (3 : Int32) [(.ref w_x0), .null, .null] .null := Arv.set Ar6 qr6 Sr6 Nr6 Hr6 Gr6 rfl W7 0 rfl (Nat.le_of_ble_eq_true rfl)
  have KK7 : Keep h0 h7 [] := KK2.wr W7 (Or.inr sz_b2)
  have O7 := O2.wr W7 g_b2
  have N7 := Fr.snoc X7 N5 g_b2
  have nz8 : r1 ≠ b2 := (Nat.ne_of_lt (Nat.lt_of_lt_of_le P2.lt (Nat.le_of_eq gq2.symm)))
  obtain ⟨cl9, Ar9, -, Sr9, Nr9, -, -⟩ := id ((P2.ext E2).other W7 nz8)
  obtain ⟨cl10, Ar10, -, Sr10, -, Hr10, -⟩ := id ((P2.ext E2).other W7 nz8)
  have hin10 : ¬ ((1 : Int32) < 0 ∨ cl10.slots.size ≤ ((1 : Int32) : Int32).toNatClampNeg) := inb_of Sr10 ⟨by decide, by decide⟩
  have hat10 : cl10.slots[((1 : Int32) : Int32).toNatClampNeg]? = some (.ref w_x1) := Has.at Hr10 hin10 rfl
  obtain ⟨_, T11, L11, X11, hQ11, st11⟩ := own_cS X7 hx hZ hown (w202 hw) (w75 hw) (w76 hw) (w77 hw) (rm12_2 l Z a0 hw w_x1 h7 n0 O7 ) e7 (hb hby d26_19) hml pd_2 [(.ref w_x1)] [(.int (1 : Int32)), (.ref b2)] (g := (mkF m 19 #[.val (.ref r1), .val (.ref b2), .val (.int (1 : Int32))] [(.ref w_x1), (.int (1 : Int32)), (.ref b2)]))
  obtain ⟨rfl, N11q, e11⟩ := hQ11
  have N11 := Fr.app N7 N11q
  obtain ⟨cl12, Ar12, qr12, Sr12, Nr12, Hr12, Gr12⟩ := id V7
  have hin12 : ¬ ((1 : Int32) < 0 ∨ cl12.slots.size ≤ ((1 : Int32) : Int32).toNatClampNeg) := inb_of Sr12 ⟨by decide, by decide⟩
  obtain ⟨T13, h13, X13, e13, W13, st13⟩ := stR X11 hx hZ e11 Ar12 (j := (1 : Int32)) hin12 rfl (Sto.ofV Ar12 qr12 Ov2 (Ins.of_exa (P4.ext O7.2) (w63 hw))) (g := (mkF m 22 #[.val (.ref r1), .val (.ref b2), .val (.int (1 : Int32))] [(.ref w_x1), (.int (1 : Int32)), (.ref b2)])) rfl rfl (hb hby d26_22)
  have V13 : Arv Z h13 b2 k2 (.object sN1) (3 : Int32) [(.ref w_x0), (.ref w_x1), .null] .null := Arv.set Ar12 qr12 Sr12 Nr12 Hr12 Gr12 rfl W13 1 rfl (Nat.le_of_ble_eq_true rfl)
  have KK13 : Keep h0 h13 [] := KK7.wr W13 (Or.inr sz_b2)
  have O13 := O7.wr W13 g_b2
  have N13 := Fr.snoc X13 N11 g_b2
  have fc14 := (((P2.ext E2).other W7 nz8).other W13 nz8)
  obtain ⟨cl15, Ar15, -, Sr15, Nr15, -, -⟩ := id fc14
  obtain ⟨cl16, Ar16, -, Sr16, -, Hr16, -⟩ := id fc14
  have hin16 : ¬ ((2 : Int32) < 0 ∨ cl16.slots.size ≤ ((2 : Int32) : Int32).toNatClampNeg) := inb_of Sr16 ⟨by decide, by decide⟩
  have hat16 : cl16.slots[((2 : Int32) : Int32).toNatClampNeg]? = some (.ref w_x2) := Has.at Hr16 hin16 rfl
  obtain ⟨_, T17, L17, X17, hQ17, st17⟩ := own_cS X13 hx hZ hown (w202 hw) (w75 hw) (w76 hw) (w77 hw) (rm12_3 l Z a0 hw w_x2 h13 n0 O13 ) e13 (hb hby d26_19) hml pd_2 [(.ref w_x2)] [(.int (2 : Int32)), (.ref b2)] (g := (mkF m 19 #[.val (.ref r1), .val (.ref b2), .val (.int (2 : Int32))] [(.ref w_x2), (.int (2 : Int32)), (.ref b2)]))
  obtain ⟨rfl, N17q, e17⟩ := hQ17
  have N17 := Fr.app N13 N17q
  obtain ⟨cl18, Ar18, qr18, Sr18, Nr18, Hr18, Gr18⟩ := id V13
  have hin18 : ¬ ((2 : Int32) < 0 ∨ cl18.slots.size ≤ ((2 : Int32) : Int32).toNatClampNeg) := inb_of Sr18 ⟨by decide, by decide⟩
  obtain ⟨T19, h19, X19, e19, W19, st19⟩ := stR X17 hx hZ e17 Ar18 (j := (2 : Int32)) hin18 rfl (Sto.ofV Ar18 qr18 Ov2 (Ins.of_exa (P5.ext O13.2) (w63 hw))) (g := (mkF m 22 #[.val (.ref r1), .val (.ref b2), .val (.int (2 : Int32))] [(.ref w_x2), (.int (2 : Int32)), (.ref b2)])) rfl rfl (hb hby d26_22)
  have V19 : Arv Z h19 b2 k2 (.object sN1) (3 : Int32) [(.ref w_x0), (.ref w_x1), (.ref w_x2)] .null := Arv.set Ar18 qr18 Sr18 Nr18 Hr18 Gr18 rfl W19 2 rfl (Nat.le_of_ble_eq_true rfl)
  have KK19 : Keep h0 h19 [] := KK13.wr W19 (Or.inr sz_b2)
  have O19 := O13.wr W19 g_b2
  have N19 := Fr.snoc X19 N17 g_b2
  obtain ⟨cl20, Ar20, -, Sr20, Nr20, -, -⟩ := id (fc14.other W19 nz8)
  obtain ⟨T21, h21, X21, e21, E21, A21, D21, -, st21⟩ := newO X19 hx hZ hown (w95 hw) (w203 hw) (w119 hw) e19 (g := (mkF m 29 #[.val (.ref r1), .val (.ref b2), .val (.int (3 : Int32))] [])) rfl (hb hby d26_29) (by decide) (by decide)
  obtain ⟨b21, gq21⟩ : ∃ z, z = h19.size := ⟨_, rfl⟩
  rw [← gq21] at A21 D21 st21
  have g_b21 : n0 ≤ b21 := Nat.le_trans ((O19.1 ▸ O19.2.1) : n0 ≤ h19.size) (Nat.le_of_eq gq21.symm)
  have sz_b21 : h0.size ≤ b21 := Nat.le_trans KK19.1 (Nat.le_of_eq gq21.symm)
  have KK21 : Keep h0 h21 [] := KK19.ext E21
  have O21 := O19.ext E21
  have F_elements_b21 : Fld Z h21 b21 sN7 "elements" sN4 .null := D21 (Or.inr (w122 hw)) (ty := (.array (.object sN1))) (by decide)
  have F_allowNulls_b21 : Fld Z h21 b21 sN7 "allowNulls" "Z" (.int (0 : Int32)) := D21 (Or.inr (w222 hw)) (ty := .boolean) (by decide)
  obtain ⟨_, T22, L22, X22, hQ22, st22⟩ := own_cN X21 hx hZ hown rfl (w204 hw) (w205 hw) (w119 hw) (w207 hw) (rm27_0 l Z a0 hw b21 b2 h21 n0 O21 A21 F_elements_b21 F_allowNulls_b21 g_b21) e21 (hb hby d26_35) hml pd_56 [(.ref b2), (.int (0 : Int32))] [(.ref b21)] (g := (mkF m 35 #[.val (.ref r1), .val (.ref b2), .val (.int (3 : Int32))] [(.int (0 : Int32)), (.ref b2), (.ref b21), (.ref b21)]))
  obtain ⟨rfl, N22q, K22, f22_0, f22_1⟩ := hQ22
  have KK22 : Keep h0 T22.heap [] := KK21.trans K22 (allS (Or.inr sz_b21) all0)
  have O22 := O21.keep K22 (allS g_b21 all0)
  have N22 := Fr.app N19 N22q
  have fc23 := (((((Ea2.wr W7).wr W13).wr W19).ext E21).keep K22)
  have nz24 : b2 ≠ b21 := (ne_exa ((((Ea2.wr W7).wr W13).wr W19).ext E21) A21 (by decide))
  have fc25 := ((V19.ext E21).keep K22 (ninS nz24 nin0))
  refine ⟨(some (.ref b21)), _, _, _, _, X22, (fun h => nomatch h), ?_, by decide, by decide, fun fs hr => castTop (ef_26_R m r1) ?_⟩
  · show Q_rm26_0 Z r1 w_x0 w_x1 w_x2 k_r1 n0 h0 _ T22.heap _
    exact ⟨b21, b2, k2, rfl, N22, KK22, sz_b21, sz_b2, fc23, fc25, Ov2, (A21.keep K22), f22_0, f22_1⟩
  · show Steps p.tables e below (s₁.setTop (mkF m 0 #[.val (.ref r1), .unset, .unset] [])) _
    refine XS.aloadN X0.here hx rfl (hb hby d26_0) rfl rfl ?_
    refine X0.arraylength hx (by rw [e0]; exact Ar1.1) (State.isArrayOf_alike hZ.alike Ar1.2.1) (g := (mkF m 1 #[.val (.ref r1), .unset, .unset] [(.ref r1)])) rfl rfl (hb hby d26_1) _ ?_
    rw [len_of Sr1 Nr1]
    refine st2 _ ?_
    refine XS.astoreN X2.here hx rfl (hb hby d26_5) rfl rfl (l' := #[.val (.ref r1), .val (.ref b2), .unset]) rfl ?_
    refine XS.iconst X2.here hx rfl (hb hby d26_6) ?_
    refine XS.istoreN X2.here hx rfl (hb hby d26_7) rfl (l' := #[.val (.ref r1), .val (.ref b2), .val (.int (0 : Int32))]) rfl ?_
    refine XS.iloadN X2.here hx rfl (hb hby d26_8) rfl ?_
    refine XS.aloadN X2.here hx rfl (hb hby d26_9) rfl rfl ?_
    show Steps p.tables e below (T2.setTop (mkF m 10 #[.val (.ref r1), .val (.ref b2), .val (.int (0 : Int32))] [(.ref r1), (.int (0 : Int32))])) _
    refine X2.arraylength hx (by rw [e2]; exact Ar3.1) (State.isArrayOf_alike hZ.alike Ar3.2.1) (g := (mkF m 10 #[.val (.ref r1), .val (.ref b2), .val (.int (0 : Int32))] [(.ref r1), (.int (0 : Int32))])) rfl rfl (hb hby d26_10) _ ?_
    rw [len_of Sr3 Nr3]
    refine XS.icmpNo X2.here hx rfl (hb hby d26_11) rfl (by decide) ?_
    refine XS.aloadN X2.here hx rfl (hb hby d26_14) rfl rfl ?_
    refine XS.iloadN X2.here hx rfl (hb hby d26_15) rfl ?_
    refine XS.aloadN X2.here hx rfl (hb hby d26_16) rfl rfl ?_
    refine XS.iloadN X2.here hx rfl (hb hby d26_17) rfl ?_
    refine X2.aaload hx (j := (0 : Int32)) (v := (.ref w_x0)) (by rw [e2]; exact Ar4.1) (State.isArrayOf_alike hZ.alike Ar4.2.1) rfl Ar4.2.2 hin4 hat4 (g := (mkF m 18 #[.val (.ref r1), .val (.ref b2), .val (.int (0 : Int32))] [(.int (0 : Int32)), (.ref r1), (.int (0 : Int32)), (.ref b2)])) rfl rfl (hb hby d26_18) _ ?_
    refine st5 _ ?_
    show Steps p.tables e below (T5.setTop (mkF m 22 #[.val (.ref r1), .val (.ref b2), .val (.int (0 : Int32))] [(.ref w_x0), (.int (0 : Int32)), (.ref b2)])) _
    refine st7 _ ?_
    refine XS.iinc X7.here hx rfl (hb hby d26_23) rfl (l' := #[.val (.ref r1), .val (.ref b2), .val (.int ((0 : Int32) + (1 : Int32)))]) rfl ?_
    show Steps p.tables e below (T7.setTop (mkF m 26 #[.val (.ref r1), .val (.ref b2), .val (.int ((0 : Int32) + (1 : Int32)))] [])) _
    rw [fo_0]
    refine XS.goto X7.here hx rfl (pc0 := 26) (pc' := 8) rfl (hb hby d26_26) (by decide) (by decide) ?_
    refine XS.iloadN X7.here hx rfl (hb hby d26_8) rfl ?_
    refine XS.aloadN X7.here hx rfl (hb hby d26_9) rfl rfl ?_
    refine X7.arraylength hx (by rw [e7]; exact Ar9.1) (State.isArrayOf_alike hZ.alike Ar9.2.1) (g := (mkF m 10 #[.val (.ref r1), .val (.ref b2), .val (.int (1 : Int32))] [(.ref r1), (.int (1 : Int32))])) rfl rfl (hb hby d26_10) _ ?_
    rw [len_of Sr9 Nr9]
    refine XS.icmpNo X7.here hx rfl (hb hby d26_11) rfl (by decide) ?_
    refine XS.aloadN X7.here hx rfl (hb hby d26_14) rfl rfl ?_
    refine XS.iloadN X7.here hx rfl (hb hby d26_15) rfl ?_
    show Steps p.tables e below (T7.setTop (mkF m 16 #[.val (.ref r1), .val (.ref b2), .val (.int (1 : Int32))] [(.int (1 : Int32)), (.ref b2)])) _
    refine XS.aloadN X7.here hx rfl (hb hby d26_16) rfl rfl ?_
    refine XS.iloadN X7.here hx rfl (hb hby d26_17) rfl ?_
    refine X7.aaload hx (j := (1 : Int32)) (v := (.ref w_x1)) (by rw [e7]; exact Ar10.1) (State.isArrayOf_alike hZ.alike Ar10.2.1) rfl Ar10.2.2 hin10 hat10 (g := (mkF m 18 #[.val (.ref r1), .val (.ref b2), .val (.int (1 : Int32))] [(.int (1 : Int32)), (.ref r1), (.int (1 : Int32)), (.ref b2)])) rfl rfl (hb hby d26_18) _ ?_
    refine st11 _ ?_
    refine st13 _ ?_
    refine XS.iinc X13.here hx rfl (hb hby d26_23) rfl (l' := #[.val (.ref r1), .val (.ref b2), .val (.int ((1 : Int32) + (1 : Int32)))]) rfl ?_
    show Steps p.tables e below (T13.setTop (mkF m 26 #[.val (.ref r1), .val (.ref b2), .val (.int ((1 : Int32) + (1 : Int32)))] [])) _
    rw [fo_1]
    refine XS.goto X13.here hx rfl (pc0 := 26) (pc' := 8) rfl (hb hby d26_26) (by decide) (by decide) ?_
    refine XS.iloadN X13.here hx rfl (hb hby d26_8) rfl ?_
    refine XS.aloadN X13.here hx rfl (hb hby d26_9) rfl rfl ?_
    refine X13.arraylength hx (by rw [e13]; exact Ar15.1) (State.isArrayOf_alike hZ.alike Ar15.2.1) (g := (mkF m 10 #[.val (.ref r1), .val (.ref b2), .val (.int (2 : Int32))] [(.ref r1), (.int (2 : Int32))])) rfl rfl (hb hby d26_10) _ ?_
    rw [len_of Sr15 Nr15]
    refine XS.icmpNo X13.here hx rfl (hb hby d26_11) rfl (by decide) ?_
    refine XS.aloadN X13.here hx rfl (hb hby d26_14) rfl rfl ?_
    refine XS.iloadN X13.here hx rfl (hb hby d26_15) rfl ?_
    show Steps p.tables e below (T13.setTop (mkF m 16 #[.val (.ref r1), .val (.ref b2), .val (.int (2 : Int32))] [(.int (2 : Int32)), (.ref b2)])) _
    refine XS.aloadN X13.here hx rfl (hb hby d26_16) rfl rfl ?_
    refine XS.iloadN X13.here hx rfl (hb hby d26_17) rfl ?_
    refine X13.aaload hx (j := (2 : Int32)) (v := (.ref w_x2)) (by rw [e13]; exact Ar16.1) (State.isArrayOf_alike hZ.alike Ar16.2.1) rfl Ar16.2.2 hin16 hat16 (g := (mkF m 18 #[.val (.ref r1), .val (.ref b2), .val (.int (2 : Int32))] [(.int (2 : Int32)), (.ref r1), (.int (2 : Int32)), (.ref b2)])) rfl rfl (hb hby d26_18) _ ?_
    refine st17 _ ?_
    refine st19 _ ?_
    refine XS.iinc X19.here hx rfl (hb hby d26_23) rfl (l' := #[.val (.ref r1), .val (.ref b2), .val (.int ((2 : Int32) + (1 : Int32)))]) rfl ?_
    show Steps p.tables e below (T19.setTop (mkF m 26 #[.val (.ref r1), .val (.ref b2), .val (.int ((2 : Int32) + (1 : Int32)))] [])) _
    rw [fo_2]
    refine XS.goto X19.here hx rfl (pc0 := 26) (pc' := 8) rfl (hb hby d26_26) (by decide) (by decide) ?_
    refine XS.iloadN X19.here hx rfl (hb hby d26_8) rfl ?_
    refine XS.aloadN X19.here hx rfl (hb hby d26_9) rfl rfl ?_
    refine X19.arraylength hx (by rw [e19]; exact Ar20.1) (State.isArrayOf_alike hZ.alike Ar20.2.1) (g := (mkF m 10 #[.val (.ref r1), .val (.ref b2), .val (.int (3 : Int32))] [(.ref r1), (.int (3 : Int32))])) rfl rfl (hb hby d26_10) _ ?_
    rw [len_of Sr20 Nr20]
    refine XS.icmpYes X19.here hx rfl (pc0 := 11) (pc' := 29) rfl (hb hby d26_11) rfl (by decide) (by decide) (by decide) ?_
    refine st21 _ ?_
    refine XS.dup X21.here hx rfl (hb hby d26_32) rfl rfl ?_
    show Steps p.tables e below (T21.setTop (mkF m 33 #[.val (.ref r1), .val (.ref b2), .val (.int (3 : Int32))] [(.ref b21), (.ref b21)])) _
    refine XS.aloadN X21.here hx rfl (hb hby d26_33) rfl rfl ?_
    refine XS.iconst X21.here hx rfl (hb hby d26_34) ?_
    refine st22 _ ?_
    exact retA X22 hx hret rfl rfl rfl (hb hby d26_38) hr
def Q_rm25_2 (Z : State) (r1 : Addr) (w_x0 : Addr) (w_x1 : Addr) (w_x2 : Addr) (k_r1 : ClassId) (n0 : Nat) (h0 : Heap) (v : Option Value) (h : Heap) (L : List Loc) : Prop := ∃ b2_0 : Addr, ∃ b2_1 : Addr, ∃ kc2_0 : ClassId, v = (some (.ref b2_0)) ∧ Fr n0 L ∧ Keep h0 h [] ∧ h0.size ≤ b2_0 ∧ h0.size ≤ b2_1 ∧ Exa Z h b2_1 sN4 ∧ Arv Z h b2_1 kc2_0 (.object sN1) (3 : Int32) [(.ref w_x0), (.ref w_x1), (.ref w_x2)] .null ∧ Ovr Z kc2_0 sN1 ∧ Exa Z h b2_0 sN7 ∧ Fld Z h b2_0 sN7 "elements" sN4 (.ref b2_1) ∧ Fld Z h b2_0 sN7 "allowNulls" "Z" (.int (0 : Int32))
theorem rm25_2 (l : Launch) (Z : State) (a0 : Array Value) (hw : own_HW a0 Z) (r1 : Addr) (w_x0 : Addr) (w_x1 : Addr) (w_x2 : Addr) (k_r1 : ClassId) (h0 : Heap) (n0 : Nat) (O0 : Old Z n0 h0) (P1 : Ovr Z k_r1 sN1) (P2 : Arv Z h0 r1 k_r1 (.object sN1) (3 : Int32) [(.ref w_x0), (.ref w_x1), (.ref w_x2)] .null) (P3 : Exa Z Z.heap w_x0 sN9) (P4 : Exa Z Z.heap w_x1 sN9) (P5 : Exa Z Z.heap w_x2 sN9) :
    own_Ct l Z yN22 jdk_40_method_47_code 2 (some (.object sN3)) ({ frames := 6, cells := 2, slots := 5, locals := 77 } : Room) #[(.ref r1)] h0 (Q_rm25_2 Z r1 w_x0 w_x1 w_x2 k_r1 n0 h0) := by
  refine own_enter (own := sN3) rfl (plainFor_of_name pn_6) ?_
  intro p e s m below meth c s₁ X0 hx hby hml hown hnm hret hZ e0
  have N0 := Fr.nil n0
  obtain ⟨cl1, Ar1, -, Sr1, Nr1, -, -⟩ := id P2
  obtain ⟨_, T2, L2, X2, hQ2, st2⟩ := own_cS X0 hx hZ hown (w198 hw) (w199 hw) (w88 hw) (w200 hw) (rm26_0 l Z a0 hw r1 w_x0 w_x1 w_x2 k_r1 h0 n0 O0 P1 P2 P3 P4 P5) e0 (hb hby d25_60) hml pd_44 [(.ref r1)] [] (g := (mkF m 60 #[.val (.ref r1), .unset] [(.ref r1)]))
  obtain ⟨b2_0, b2_1, kc2_0, rfl, N2q, K2, ge_b2_0, ge_b2_1, f2_0, f2_1, ov2_1, f2_2, f2_3, f2_4⟩ := hQ2
  have g_b2_0 : n0 ≤ b2_0 := Nat.le_trans ((O0.1 ▸ O0.2.1) : n0 ≤ h0.size) ge_b2_0
  have sz_b2_0 : h0.size ≤ b2_0 := Nat.le_trans (Keep.refl h0 []).1 ge_b2_0
  have g_b2_1 : n0 ≤ b2_1 := Nat.le_trans ((O0.1 ▸ O0.2.1) : n0 ≤ h0.size) ge_b2_1
  have sz_b2_1 : h0.size ≤ b2_1 := Nat.le_trans (Keep.refl h0 []).1 ge_b2_1
  have KK2 : Keep h0 T2.heap [] := (Keep.refl h0 []).trans K2 all0
  have O2 := O0.keep K2 all0
  have N2 := Fr.app N0 N2q
  refine ⟨(some (.ref b2_0)), _, _, _, _, X2, (fun h => nomatch h), ?_, by decide, by decide, fun fs hr => castTop (ef_25_R m r1) ?_⟩
  · show Q_rm25_2 Z r1 w_x0 w_x1 w_x2 k_r1 n0 h0 _ T2.heap _
    exact ⟨b2_0, b2_1, kc2_0, rfl, N2, KK2, sz_b2_0, sz_b2_1, f2_0, f2_1, ov2_1, f2_2, f2_3, f2_4⟩
  · show Steps p.tables e below (s₁.setTop (mkF m 0 #[.val (.ref r1), .unset] [])) _
    refine XS.aloadN X0.here hx rfl (hb hby d25_0) rfl rfl ?_
    refine X0.arraylength hx (by rw [e0]; exact Ar1.1) (State.isArrayOf_alike hZ.alike Ar1.2.1) (g := (mkF m 1 #[.val (.ref r1), .unset] [(.ref r1)])) rfl rfl (hb hby d25_1) _ ?_
    rw [len_of Sr1 Nr1]
    refine XS.tswOut X0.here hx rfl (pc0 := 2) (pc' := 59) rfl (hb hby d25_2) rfl (by decide) (by decide) (by decide) ?_
    refine XS.aloadN X0.here hx rfl (hb hby d25_59) rfl rfl ?_
    refine st2 _ ?_
    exact retA X2 hx hret rfl rfl rfl (hb hby d25_63) hr
def Q_rm14_3 (Z : State) (r1 : Addr) (r2 : Addr) (w_MIR : Addr) (w_x0 : Addr) (w_x1 : Addr) (w_x2 : Addr) (k_r2 : ClassId) (n0 : Nat) (h0 : Heap) (v : Option Value) (h : Heap) (L : List Loc) : Prop := ∃ b5_0 : Addr, ∃ b5_1 : Addr, ∃ kc5_0 : ClassId, v = (some (.ref b5_0)) ∧ Fr n0 L ∧ Keep h0 h [] ∧ h0.size ≤ b5_0 ∧ h0.size ≤ b5_1 ∧ Exa Z h b5_1 sN4 ∧ Arv Z h b5_1 kc5_0 (.object sN1) (3 : Int32) [(.ref w_x0), (.ref w_x1), (.ref w_x2)] .null ∧ Ovr Z kc5_0 sN1 ∧ Exa Z h b5_0 sN7 ∧ Fld Z h b5_0 sN7 "elements" sN4 (.ref b5_1) ∧ Fld Z h b5_0 sN7 "allowNulls" "Z" (.int (0 : Int32))
theorem rm14_3 (l : Launch) (Z : State) (a0 : Array Value) (hw : own_HW a0 Z) (r1 : Addr) (r2 : Addr) (w_MIR : Addr) (w_x0 : Addr) (w_x1 : Addr) (w_x2 : Addr) (k_r2 : ClassId) (h0 : Heap) (n0 : Nat) (O0 : Old Z n0 h0) (P1 : Exa Z h0 r1 sN0) (P2 : Fld Z h0 r1 sN0 "size" "I" (.int (3 : Int32))) (P3 : Fld Z h0 r1 sN0 "elementData" sN4 (.ref r2)) (P4 : Exa Z h0 r2 sN4) (P5 : Mir Z sN4 w_MIR) (P6 : Arv Z h0 r2 k_r2 (.object sN1) (10 : Int32) [(.ref w_x0), (.ref w_x1), (.ref w_x2), .null, .null, .null, .null, .null, .null, .null] .null) (P7 : Exa Z Z.heap w_x2 sN9) (P8 : Exa Z Z.heap w_x1 sN9) (P9 : Exa Z Z.heap w_x0 sN9) :
    own_Ct l Z yN12 jdk_56_method_3_code 2 (some (.object sN3)) ({ frames := 7, cells := 3, slots := 8, locals := 100 } : Room) #[(.ref r1)] h0 (Q_rm14_3 Z r1 r2 w_MIR w_x0 w_x1 w_x2 k_r2 n0 h0) := by
  refine own_enter (own := sN14) rfl (plainFor_of_name pn_9) ?_
  intro p e s m below meth c s₁ X0 hx hby hml hown hnm hret hZ e0
  have N0 := Fr.nil n0
  obtain ⟨T1, X1, e1, st1⟩ := instNo X0 hx hZ hown (w90 hw) e0 P1 (own_nsno (w91 hw) (w337 hw) (NS.step (w91 hw) (NS.step (w92 hw) (NS.step (w93 hw) (own_nsroot (w94 hw) (w337 hw) (by decide)) (by decide)) (by decide)) (by decide)) (by decide)) (g := (mkF m 1 #[.val (.ref r1), .unset] [(.ref r1)])) rfl rfl (hb hby d14_1)
  obtain ⟨T2, X2, e2, st2⟩ := instNo X1 hx hZ hown (w95 hw) e1 P1 (own_nsno (w91 hw) (w203 hw) (NS.step (w91 hw) (NS.step (w92 hw) (NS.step (w93 hw) (own_nsroot (w94 hw) (w203 hw) (by decide)) (by decide)) (by decide)) (by decide)) (by decide)) (g := (mkF m 8 #[.val (.ref r1), .unset] [(.ref r1)])) rfl rfl (hb hby d14_8)
  obtain ⟨_, T3, L3, X3, hQ3, st3⟩ := own_cF X2 hx hZ hown (w96 hw) (w97 hw) (w98 hw) (w99 hw) (w100 hw) (w101 hw) (w102 hw) (w103 hw) (w2 hw) (w104 hw) P1 (rm15_3 l Z a0 hw r1 h0 n0 O0 P2) e2 (hb hby d14_32) hml pd_5 [] [] (g := (mkF m 32 #[.val (.ref r1), .unset] [(.ref r1)]))
  obtain ⟨rfl, N3q, e3⟩ := hQ3
  have N3 := Fr.app N0 N3q
  obtain ⟨_, T4, L4, X4, hQ4, st4⟩ := own_cF X3 hx hZ hown (w165 hw) (w166 hw) (w167 hw) (w168 hw) (w169 hw) (w170 hw) (w171 hw) (w103 hw) (w2 hw) (w172 hw) P1 (rm21_2 l Z a0 hw r1 r2 w_MIR w_x0 w_x1 w_x2 k_r2 h0 n0 O0 P3 P2 P4 P5 P6 P7 P8 P9) e3 (hb hby d14_45) hml pd_33 [] [] (g := (mkF m 45 #[.val (.ref r1), .unset] [(.ref r1)]))
  obtain ⟨b4_0, kc4_0, rfl, N4q, K4, ge_b4_0, f4_0, f4_1, ov4_1⟩ := hQ4
  have g_b4_0 : n0 ≤ b4_0 := Nat.le_trans ((O0.1 ▸ O0.2.1) : n0 ≤ h0.size) ge_b4_0
  have sz_b4_0 : h0.size ≤ b4_0 := Nat.le_trans (Keep.refl h0 []).1 ge_b4_0
  have KK4 : Keep h0 T4.heap [] := (Keep.refl h0 []).trans K4 all0
  have O4 := O0.keep K4 all0
  have N4 := Fr.app N3 N4q
  obtain ⟨_, T5, L5, X5, hQ5, st5⟩ := own_cS X4 hx hZ hown (w195 hw) (w196 hw) (w84 hw) (w197 hw) (rm25_2 l Z a0 hw b4_0 w_x0 w_x1 w_x2 kc4_0 T4.heap n0 O4 ov4_1 f4_1 P9 P8 P7) rfl (hb hby d14_50) hml pd_44 [(.ref b4_0)] [] (g := (mkF m 50 #[.val (.ref r1), .unset] [(.ref b4_0)]))
  obtain ⟨b5_0, b5_1, kc5_0, rfl, N5q, K5, ge_b5_0, ge_b5_1, f5_0, f5_1, ov5_1, f5_2, f5_3, f5_4⟩ := hQ5
  have g_b5_0 : n0 ≤ b5_0 := Nat.le_trans ((O4.1 ▸ O4.2.1) : n0 ≤ T4.heap.size) ge_b5_0
  have sz_b5_0 : h0.size ≤ b5_0 := Nat.le_trans KK4.1 ge_b5_0
  have g_b5_1 : n0 ≤ b5_1 := Nat.le_trans ((O4.1 ▸ O4.2.1) : n0 ≤ T4.heap.size) ge_b5_1
  have sz_b5_1 : h0.size ≤ b5_1 := Nat.le_trans KK4.1 ge_b5_1
  have KK5 : Keep h0 T5.heap [] := KK4.trans K5 all0
  have O5 := O4.keep K5 all0
  have N5 := Fr.app N4 N5q
  refine ⟨(some (.ref b5_0)), _, _, _, _, X5, (fun h => nomatch h), ?_, by decide, by decide, fun fs hr => castTop (ef_14_R m r1) ?_⟩
  · show Q_rm14_3 Z r1 r2 w_MIR w_x0 w_x1 w_x2 k_r2 n0 h0 _ T5.heap _
    exact ⟨b5_0, b5_1, kc5_0, rfl, N5, KK5, sz_b5_0, sz_b5_1, f5_0, f5_1, ov5_1, f5_2, f5_3, f5_4⟩
  · show Steps p.tables e below (s₁.setTop (mkF m 0 #[.val (.ref r1), .unset] [])) _
    refine XS.aloadN X0.here hx rfl (hb hby d14_0) rfl rfl ?_
    refine st1 _ ?_
    refine XS.ifNo X1.here hx rfl (hb hby d14_4) rfl (by decide) ?_
    refine XS.aloadN X1.here hx rfl (hb hby d14_7) rfl rfl ?_
    refine st2 _ ?_
    refine XS.ifYes X2.here hx rfl (pc0 := 11) (pc' := 31) rfl (hb hby d14_11) rfl (by decide) (by decide) (by decide) ?_
    refine XS.aloadN X2.here hx rfl (hb hby d14_31) rfl rfl ?_
    refine st3 _ ?_
    show Steps p.tables e below (T3.setTop (mkF m 37 #[.val (.ref r1), .unset] [(.int (0 : Int32))])) _
    refine XS.ifYes X3.here hx rfl (pc0 := 37) (pc' := 44) rfl (hb hby d14_37) rfl (by decide) (by decide) (by decide) ?_
    refine XS.aloadN X3.here hx rfl (hb hby d14_44) rfl rfl ?_
    refine st4 _ ?_
    refine st5 _ ?_
    exact retA X5 hx hret rfl rfl rfl (hb hby d14_53) hr
def Q_rm13_3 (Z : State) (r1 : Addr) (r2 : Addr) (w_MIR : Addr) (w_x0 : Addr) (w_x1 : Addr) (w_x2 : Addr) (k_r2 : ClassId) (n0 : Nat) (h0 : Heap) (v : Option Value) (h : Heap) (L : List Loc) : Prop := ∃ b1_0 : Addr, ∃ b1_1 : Addr, ∃ kc1_0 : ClassId, v = (some (.ref b1_0)) ∧ Fr n0 L ∧ Keep h0 h [] ∧ h0.size ≤ b1_0 ∧ h0.size ≤ b1_1 ∧ Exa Z h b1_1 sN4 ∧ Arv Z h b1_1 kc1_0 (.object sN1) (3 : Int32) [(.ref w_x0), (.ref w_x1), (.ref w_x2)] .null ∧ Ovr Z kc1_0 sN1 ∧ Exa Z h b1_0 sN7 ∧ Fld Z h b1_0 sN7 "elements" sN4 (.ref b1_1) ∧ Fld Z h b1_0 sN7 "allowNulls" "Z" (.int (0 : Int32))
theorem rm13_3 (l : Launch) (Z : State) (a0 : Array Value) (hw : own_HW a0 Z) (r1 : Addr) (r2 : Addr) (w_MIR : Addr) (w_x0 : Addr) (w_x1 : Addr) (w_x2 : Addr) (k_r2 : ClassId) (h0 : Heap) (n0 : Nat) (O0 : Old Z n0 h0) (P1 : Exa Z h0 r1 sN0) (P2 : Fld Z h0 r1 sN0 "size" "I" (.int (3 : Int32))) (P3 : Fld Z h0 r1 sN0 "elementData" sN4 (.ref r2)) (P4 : Exa Z h0 r2 sN4) (P5 : Mir Z sN4 w_MIR) (P6 : Arv Z h0 r2 k_r2 (.object sN1) (10 : Int32) [(.ref w_x0), (.ref w_x1), (.ref w_x2), .null, .null, .null, .null, .null, .null, .null] .null) (P7 : Exa Z Z.heap w_x2 sN9) (P8 : Exa Z Z.heap w_x1 sN9) (P9 : Exa Z Z.heap w_x0 sN9) :
    own_Ct l Z yN11 jdk_40_method_48_code 1 (some (.object sN3)) ({ frames := 8, cells := 3, slots := 8, locals := 113 } : Room) #[(.ref r1)] h0 (Q_rm13_3 Z r1 r2 w_MIR w_x0 w_x1 w_x2 k_r2 n0 h0) := by
  refine own_enter (own := sN3) rfl (plainFor_of_name pn_6) ?_
  intro p e s m below meth c s₁ X0 hx hby hml hown hnm hret hZ e0
  have N0 := Fr.nil n0
  obtain ⟨_, T1, L1, X1, hQ1, st1⟩ := own_cS X0 hx hZ hown (w86 hw) (w87 hw) (w88 hw) (w89 hw) (rm14_3 l Z a0 hw r1 r2 w_MIR w_x0 w_x1 w_x2 k_r2 h0 n0 O0 P1 P2 P3 P4 P5 P6 P7 P8 P9) e0 (hb hby d13_1) hml pd_11 [(.ref r1)] [] (g := (mkF m 1 #[.val (.ref r1)] [(.ref r1)]))
  obtain ⟨b1_0, b1_1, kc1_0, rfl, N1q, K1, ge_b1_0, ge_b1_1, f1_0, f1_1, ov1_1, f1_2, f1_3, f1_4⟩ := hQ1
  have g_b1_0 : n0 ≤ b1_0 := Nat.le_trans ((O0.1 ▸ O0.2.1) : n0 ≤ h0.size) ge_b1_0
  have sz_b1_0 : h0.size ≤ b1_0 := Nat.le_trans (Keep.refl h0 []).1 ge_b1_0
  have g_b1_1 : n0 ≤ b1_1 := Nat.le_trans ((O0.1 ▸ O0.2.1) : n0 ≤ h0.size) ge_b1_1
  have sz_b1_1 : h0.size ≤ b1_1 := Nat.le_trans (Keep.refl h0 []).1 ge_b1_1
  have KK1 : Keep h0 T1.heap [] := (Keep.refl h0 []).trans K1 all0
  have O1 := O0.keep K1 all0
  have N1 := Fr.app N0 N1q
  refine ⟨(some (.ref b1_0)), _, _, _, _, X1, (fun h => nomatch h), ?_, by decide, by decide, fun fs hr => castTop (ef_13_R m r1) ?_⟩
  · show Q_rm13_3 Z r1 r2 w_MIR w_x0 w_x1 w_x2 k_r2 n0 h0 _ T1.heap _
    exact ⟨b1_0, b1_1, kc1_0, rfl, N1, KK1, sz_b1_0, sz_b1_1, f1_0, f1_1, ov1_1, f1_2, f1_3, f1_4⟩
  · show Steps p.tables e below (s₁.setTop (mkF m 0 #[.val (.ref r1)] [])) _
    refine XS.aloadN X0.here hx rfl (hb hby d13_0) rfl rfl ?_
    refine st1 _ ?_
    exact retA X1 hx hret rfl rfl rfl (hb hby d13_4) hr
theorem rm17_1 (l : Launch) (Z : State) (a0 : Array Value) (hw : own_HW a0 Z) (r1 : Addr) (r2 : Addr) (w_x0 : Addr) (w_x1 : Addr) (w_x2 : Addr) (k_r2 : ClassId) (h0 : Heap) (n0 : Nat) (O0 : Old Z n0 h0) (P1 : Fld Z h0 r1 sN7 "elements" sN4 (.ref r2)) (P2 : Ovr Z k_r2 sN1) (P3 : Arv Z h0 r2 k_r2 (.object sN1) (3 : Int32) [(.ref w_x0), (.ref w_x1), (.ref w_x2)] .null) :
    own_Ct l Z yN18 jdk_45_method_3_code 1 (some .int) ({ frames := 0, cells := 0, slots := 0, locals := 0 } : Room) #[(.ref r1)] h0 (own_QP (some (.int (3 : Int32))) n0 h0) := by
  refine own_enter (own := sN7) rfl (plainFor_of_name pn_13) ?_
  intro p e s m below meth c s₁ X0 hx hby hml hown hnm hret hZ e0
  have N0 := Fr.nil n0
  obtain ⟨T1, X1, e1, st1⟩ := getF X0 hx hZ hown (host := "") (Or.inl (w121 hw)) Via.refl e0 P1 (g := (mkF m 1 #[.val (.ref r1)] [(.ref r1)])) rfl rfl (hb hby d17_1)
  obtain ⟨cl2, Ar2, -, Sr2, Nr2, -, -⟩ := id P3
  refine ⟨(some (.int (3 : Int32))), _, _, _, _, X1, (fun h => nomatch h), ?_, by decide, by decide, fun fs hr => castTop (ef_17_R m r1) ?_⟩
  · show own_QP (some (.int (3 : Int32))) n0 h0 _ T1.heap _
    rw [e1]
    exact ⟨rfl, N0, rfl⟩
  · show Steps p.tables e below (s₁.setTop (mkF m 0 #[.val (.ref r1)] [])) _
    refine XS.aloadN X0.here hx rfl (hb hby d17_0) rfl rfl ?_
    refine st1 _ ?_
    refine X1.arraylength hx (by rw [e1]; exact Ar2.1) (State.isArrayOf_alike hZ.alike Ar2.2.1) (g := (mkF m 4 #[.val (.ref r1)] [(.ref r2)])) rfl rfl (hb hby d17_4) _ ?_
    rw [len_of Sr2 Nr2]
    exact retI X1 hx hret (hb hby d17_5) hr
def Q_rm19_3 (Z : State) (r1 : Addr) (r2 : Addr) (n0 : Nat) (h0 : Heap) (v : Option Value) (h : Heap) (L : List Loc) : Prop := v = none ∧ Fr n0 L ∧ Keep h0 h [r1] ∧ Fld Z h r1 sN5 "list" sN10 (.ref r2) ∧ Fld Z h r1 sN5 "size" "I" (.int (3 : Int32)) ∧ Fld Z h r1 sN5 "cursor" "I" (.int (0 : Int32)) ∧ Fld Z h r1 sN5 sN19 "Z" (.int (0 : Int32))
theorem rm19_3 (l : Launch) (Z : State) (a0 : Array Value) (hw : own_HW a0 Z) (r1 : Addr) (r2 : Addr) (h0 : Heap) (n0 : Nat) (O0 : Old Z n0 h0) (P1 : Exa Z h0 r1 sN5) (P2 : Fld Z h0 r1 sN5 "list" sN10 .null) (P3 : Fld Z h0 r1 sN5 "size" "I" (.int (0 : Int32))) (P4 : Fld Z h0 r1 sN5 "cursor" "I" (.int (0 : Int32))) (P5 : Fld Z h0 r1 sN5 sN19 "Z" (.int (0 : Int32))) (P6 : n0 ≤ r1) :
    own_Ct l Z yN19 jdk_53_method_1_code 3 none ({ frames := 1, cells := 0, slots := 0, locals := 12 } : Room) #[(.ref r1), (.ref r2), (.int (3 : Int32))] h0 (Q_rm19_3 Z r1 r2 n0 h0) := by
  refine own_enter (own := sN5) rfl (plainFor_of_name pn_16) ?_
  intro p e s m below meth c s₁ X0 hx hby hml hown hnm hret hZ e0
  have N0 := Fr.nil n0
  obtain ⟨T1, X1, e1, st1⟩ := initO X0 hx hZ hown (w147 hw) (w19 hw) (w20 hw) e0 (g := (mkF m 1 #[.val (.ref r1), .val (.ref r2), .val (.int (3 : Int32))] [(.ref r1)])) rfl (by rw [hml]; rfl) rfl (hb hby d19_1) (by decide) (W := 0) (by show 2 * 0 + _ ≤ _; exact Nat.le_of_eq rfl) (by decide)
  obtain ⟨T2, h2, X2, e2, W2, st2⟩ := putF X1 hx hZ hown (host := "") (Or.inl (w148 hw)) Via.refl e1 P2 P1 (Or.inr ⟨(w149 hw), rfl, hnm⟩) (w137 hw) (ty := (.object sN3)) (by decide) rfl rfl (g := (mkF m 6 #[.val (.ref r1), .val (.ref r2), .val (.int (3 : Int32))] [(.ref r2), (.ref r1)])) rfl rfl (hb hby d19_6)
  have Fw2 := P2.same W2
  have KK2 : Keep h0 h2 [r1] := (Keep.refl h0 [r1]).wr W2 (Or.inl (List.mem_of_getElem? (i := 0) rfl))
  have O2 := O0.wr W2 P6
  have N2 := Fr.snoc X2 N0 P6
  have fc3 := (P3.other W2 (Or.inr (slot_ne (Or.inr (w151 hw)) (Or.inr (w149 hw)) (by decide) (t := .int) (t' := (.object sN3)) (by decide) (by decide))))
  obtain ⟨T4, h4, X4, e4, W4, st4⟩ := putF X2 hx hZ hown (host := "") (Or.inl (w150 hw)) Via.refl e2 fc3 (P1.wr W2) (Or.inr ⟨(w151 hw), rfl, hnm⟩) (w137 hw) (ty := .int) (by decide) rfl rfl (g := (mkF m 11 #[.val (.ref r1), .val (.ref r2), .val (.int (3 : Int32))] [(.int (3 : Int32)), (.ref r1)])) rfl rfl (hb hby d19_11)
  have Fw4 := fc3.same W4
  have KK4 : Keep h0 h4 [r1] := KK2.wr W4 (Or.inl (List.mem_of_getElem? (i := 0) rfl))
  have O4 := O2.wr W4 P6
  have N4 := Fr.snoc X4 N2 P6
  have fc5 := ((P4.other W2 (Or.inr (slot_ne (Or.inl (w153 hw)) (Or.inr (w149 hw)) (by decide) (t := .int) (t' := (.object sN3)) (by decide) (by decide)))).other W4 (Or.inr (slot_ne (Or.inl (w153 hw)) (Or.inr (w151 hw)) (by decide) (t := .int) (t' := .int) (by decide) (by decide))))
  obtain ⟨T6, h6, X6, e6, W6, st6⟩ := putF X4 hx hZ hown (host := "") (Or.inl (w152 hw)) Via.refl e4 fc5 ((P1.wr W2).wr W4) (Or.inl (w153 hw)) (w137 hw) (ty := .int) (by decide) rfl rfl (g := (mkF m 16 #[.val (.ref r1), .val (.ref r2), .val (.int (3 : Int32))] [(.int (0 : Int32)), (.ref r1)])) rfl rfl (hb hby d19_16)
  have Fw6 := fc5.same W6
  have KK6 : Keep h0 h6 [r1] := KK4.wr W6 (Or.inl (List.mem_of_getElem? (i := 0) rfl))
  have O6 := O4.wr W6 P6
  have N6 := Fr.snoc X6 N4 P6
  have fc7 := (((P5.other W2 (Or.inr (slot_ne (Or.inr (w155 hw)) (Or.inr (w149 hw)) (by decide) (t := .boolean) (t' := (.object sN3)) (by decide) (by decide)))).other W4 (Or.inr (slot_ne (Or.inr (w155 hw)) (Or.inr (w151 hw)) (by decide) (t := .boolean) (t' := .int) (by decide) (by decide)))).other W6 (Or.inr (slot_ne (Or.inr (w155 hw)) (Or.inl (w153 hw)) (by decide) (t := .boolean) (t' := .int) (by decide) (by decide))))
  obtain ⟨T8, h8, X8, e8, W8, st8⟩ := putFN X6 hx hZ hown (w154 hw) Via.refl e6 fc7 (((P1.wr W2).wr W4).wr W6) (Or.inr ⟨(w155 hw), rfl, hnm⟩) (w137 hw) (ty := .boolean) (v' := (.int (0 : Int32))) (by decide) (by decide) (by decide) (g := (mkF m 21 #[.val (.ref r1), .val (.ref r2), .val (.int (3 : Int32))] [(.int (0 : Int32)), (.ref r1)])) rfl rfl (hb hby d19_21)
  have Fw8 := fc7.same W8
  have KK8 : Keep h0 h8 [r1] := KK6.wr W8 (Or.inl (List.mem_of_getElem? (i := 0) rfl))
  have O8 := O6.wr W8 P6
  have N8 := Fr.snoc X8 N6 P6
  have fc9 := (((Fw2.other W4 (Or.inr (slot_ne (Or.inr (w149 hw)) (Or.inr (w151 hw)) (by decide) (t := (.object sN3)) (t' := .int) (by decide) (by decide)))).other W6 (Or.inr (slot_ne (Or.inr (w149 hw)) (Or.inl (w153 hw)) (by decide) (t := (.object sN3)) (t' := .int) (by decide) (by decide)))).other W8 (Or.inr (slot_ne (Or.inr (w149 hw)) (Or.inr (w155 hw)) (by decide) (t := (.object sN3)) (t' := .boolean) (by decide) (by decide))))
  have fc10 := ((Fw4.other W6 (Or.inr (slot_ne (Or.inr (w151 hw)) (Or.inl (w153 hw)) (by decide) (t := .int) (t' := .int) (by decide) (by decide)))).other W8 (Or.inr (slot_ne (Or.inr (w151 hw)) (Or.inr (w155 hw)) (by decide) (t := .int) (t' := .boolean) (by decide) (by decide))))
  have fc11 := (Fw6.other W8 (Or.inr (slot_ne (Or.inl (w153 hw)) (Or.inr (w155 hw)) (by decide) (t := .int) (t' := .boolean) (by decide) (by decide))))
  refine ⟨none, _, _, _, _, X8, (fun _ => rfl), ?_, by decide, by decide, fun fs hr => castTop (ef_19_RRI m r1 r2 (3 : Int32)) ?_⟩
  · show Q_rm19_3 Z r1 r2 n0 h0 _ T8.heap _
    rw [e8]
    exact ⟨rfl, N8, KK8, fc9, fc10, fc11, Fw8⟩
  · show Steps p.tables e below (s₁.setTop (mkF m 0 #[.val (.ref r1), .val (.ref r2), .val (.int (3 : Int32))] [])) _
    refine XS.aloadN X0.here hx rfl (hb hby d19_0) rfl rfl ?_
    refine st1 _ ?_
    refine XS.aloadN X1.here hx rfl (hb hby d19_4) rfl rfl ?_
    refine XS.aloadN X1.here hx rfl (hb hby d19_5) rfl rfl ?_
    refine st2 _ ?_
    refine XS.aloadN X2.here hx rfl (hb hby d19_9) rfl rfl ?_
    refine XS.iloadN X2.here hx rfl (hb hby d19_10) rfl ?_
    refine st4 _ ?_
    show Steps p.tables e below (T4.setTop (mkF m 14 #[.val (.ref r1), .val (.ref r2), .val (.int (3 : Int32))] [])) _
    refine XS.aloadN X4.here hx rfl (hb hby d19_14) rfl rfl ?_
    refine XS.iconst X4.here hx rfl (hb hby d19_15) ?_
    refine st6 _ ?_
    refine XS.aloadN X6.here hx rfl (hb hby d19_19) rfl rfl ?_
    refine XS.iconst X6.here hx rfl (hb hby d19_20) ?_
    refine st8 _ ?_
    exact X8.returnOut hx hret (hb hby d19_24) hr
def Q_rm18_3 (Z : State) (r1 : Addr) (r2 : Addr) (w_x0 : Addr) (w_x1 : Addr) (w_x2 : Addr) (k_r2 : ClassId) (n0 : Nat) (h0 : Heap) (v : Option Value) (h : Heap) (L : List Loc) : Prop := ∃ b1 : Addr, v = (some (.ref b1)) ∧ Fr n0 L ∧ Keep h0 h [] ∧ h0.size ≤ b1 ∧ Exa Z h b1 sN5 ∧ Fld Z h b1 sN5 "list" sN10 (.ref r1) ∧ Fld Z h b1 sN5 "size" "I" (.int (3 : Int32)) ∧ Fld Z h b1 sN5 "cursor" "I" (.int (0 : Int32)) ∧ Fld Z h b1 sN5 sN19 "Z" (.int (0 : Int32))
theorem rm18_3 (l : Launch) (Z : State) (a0 : Array Value) (hw : own_HW a0 Z) (r1 : Addr) (r2 : Addr) (w_x0 : Addr) (w_x1 : Addr) (w_x2 : Addr) (k_r2 : ClassId) (h0 : Heap) (n0 : Nat) (O0 : Old Z n0 h0) (P1 : Exa Z h0 r1 sN7) (P2 : Fld Z h0 r1 sN7 "elements" sN4 (.ref r2)) (P3 : Ovr Z k_r2 sN1) (P4 : Arv Z h0 r2 k_r2 (.object sN1) (3 : Int32) [(.ref w_x0), (.ref w_x1), (.ref w_x2)] .null) :
    own_Ct l Z yN8 jdk_46_method_10_code 1 (some (.object sN22)) ({ frames := 2, cells := 1, slots := 4, locals := 27 } : Room) #[(.ref r1)] h0 (Q_rm18_3 Z r1 r2 w_x0 w_x1 w_x2 k_r2 n0 h0) := by
  refine own_enter (own := sN21) rfl (plainFor_of_name pn_19) ?_
  intro p e s m below meth c s₁ X0 hx hby hml hown hnm hret hZ e0
  have N0 := Fr.nil n0
  obtain ⟨T1, h1, X1, e1, E1, A1, D1, -, st1⟩ := newO X0 hx hZ hown (w136 hw) (w137 hw) (w138 hw) e0 (g := (mkF m 0 #[.val (.ref r1)] [])) rfl (hb hby d18_0) (by decide) (by decide)
  obtain ⟨b1, gq1⟩ : ∃ z, z = h0.size := ⟨_, rfl⟩
  rw [← gq1] at A1 D1 st1
  have g_b1 : n0 ≤ b1 := Nat.le_trans ((O0.1 ▸ O0.2.1) : n0 ≤ h0.size) (Nat.le_of_eq gq1.symm)
  have sz_b1 : h0.size ≤ b1 := Nat.le_trans (Keep.refl h0 []).1 (Nat.le_of_eq gq1.symm)
  have KK1 : Keep h0 h1 [] := (Keep.refl h0 []).ext E1
  have O1 := O0.ext E1
  have F_list_b1 : Fld Z h1 b1 sN5 "list" sN10 .null := D1 (Or.inr (w149 hw)) (ty := (.object sN3)) (by decide)
  have F_size_b1 : Fld Z h1 b1 sN5 "size" "I" (.int (0 : Int32)) := D1 (Or.inr (w151 hw)) (ty := .int) (by decide)
  have F_cursor_b1 : Fld Z h1 b1 sN5 "cursor" "I" (.int (0 : Int32)) := D1 (Or.inl (w153 hw)) (ty := .int) (by decide)
  have F_isListIterator_b1 : Fld Z h1 b1 sN5 sN19 "Z" (.int (0 : Int32)) := D1 (Or.inr (w155 hw)) (ty := .boolean) (by decide)
  obtain ⟨_, T2, L2, X2, hQ2, st2⟩ := own_cU (owner := sN29) X1 hx hZ hown (w139 hw) (w140 hw) (w141 hw) (w142 hw) (w115 hw) (w119 hw) (w120 hw) (by decide) (P1.ext E1) (rm17_1 l Z a0 hw r1 r2 w_x0 w_x1 w_x2 k_r2 h1 n0 O1 (P2.ext E1) P3 (P4.ext E1)) e1 (hb hby d18_6) hml pd_15 [] [(.ref r1), (.ref b1), (.ref b1)] (g := (mkF m 6 #[.val (.ref r1)] [(.ref r1), (.ref r1), (.ref b1), (.ref b1)]))
  obtain ⟨rfl, N2q, e2⟩ := hQ2
  have N2 := Fr.app N0 N2q
  obtain ⟨_, T3, L3, X3, hQ3, st3⟩ := own_cI X2 hx hZ hown rfl (w143 hw) (w144 hw) (w138 hw) (w146 hw) (rm19_3 l Z a0 hw b1 r1 h1 n0 O1 A1 F_list_b1 F_size_b1 F_cursor_b1 F_isListIterator_b1 g_b1) e2 (hb hby d18_9) hml pd_18 [(.ref r1), (.int (3 : Int32))] [(.ref b1)] (g := (mkF m 9 #[.val (.ref r1)] [(.int (3 : Int32)), (.ref r1), (.ref b1), (.ref b1)]))
  obtain ⟨rfl, N3q, K3, f3_0, f3_1, f3_2, f3_3⟩ := hQ3
  have KK3 : Keep h0 T3.heap [] := KK1.trans K3 (allS (Or.inr sz_b1) all0)
  have O3 := O1.keep K3 (allS g_b1 all0)
  have N3 := Fr.app N2 N3q
  refine ⟨(some (.ref b1)), _, _, _, _, X3, (fun h => nomatch h), ?_, by decide, by decide, fun fs hr => castTop (ef_18_R m r1) ?_⟩
  · show Q_rm18_3 Z r1 r2 w_x0 w_x1 w_x2 k_r2 n0 h0 _ T3.heap _
    exact ⟨b1, rfl, N3, KK3, sz_b1, (A1.keep K3), f3_0, f3_1, f3_2, f3_3⟩
  · show Steps p.tables e below (s₁.setTop (mkF m 0 #[.val (.ref r1)] [])) _
    refine st1 _ ?_
    refine XS.dup X1.here hx rfl (hb hby d18_3) rfl rfl ?_
    refine XS.aloadN X1.here hx rfl (hb hby d18_4) rfl rfl ?_
    refine XS.aloadN X1.here hx rfl (hb hby d18_5) rfl rfl ?_
    refine st2 _ ?_
    refine st3 _ ?_
    exact retA X3 hx hret rfl rfl rfl (hb hby d18_12) hr
theorem rm20_6 (l : Launch) (Z : State) (a0 : Array Value) (hw : own_HW a0 Z) (r1 : Addr) (h0 : Heap) (n0 : Nat) (O0 : Old Z n0 h0) (P1 : Fld Z h0 r1 sN5 "cursor" "I" (.int (0 : Int32))) (P2 : Fld Z h0 r1 sN5 "size" "I" (.int (3 : Int32))) :
    own_Ct l Z yN2 jdk_53_method_3_code 1 (some .boolean) ({ frames := 0, cells := 0, slots := 0, locals := 0 } : Room) #[(.ref r1)] h0 (own_QP (some (.int (1 : Int32))) n0 h0) := by
  refine own_enter (own := sN5) rfl (plainFor_of_name pn_16) ?_
  intro p e s m below meth c s₁ X0 hx hby hml hown hnm hret hZ e0
  have N0 := Fr.nil n0
  obtain ⟨T1, X1, e1, st1⟩ := getF X0 hx hZ hown (host := "") (Or.inl (w152 hw)) Via.refl e0 P1 (g := (mkF m 1 #[.val (.ref r1)] [(.ref r1)])) rfl rfl (hb hby d20_1)
  obtain ⟨T2, X2, e2, st2⟩ := getF X1 hx hZ hown (host := "") (Or.inl (w150 hw)) Via.refl e1 P2 (g := (mkF m 5 #[.val (.ref r1)] [(.ref r1), (.int (0 : Int32))])) rfl rfl (hb hby d20_5)
  refine ⟨(some (.int (1 : Int32))), _, _, _, _, X2, (fun h => nomatch h), ?_, by decide, by decide, fun fs hr => castTop (ef_20_R m r1) ?_⟩
  · show own_QP (some (.int (1 : Int32))) n0 h0 _ T2.heap _
    rw [e2]
    exact ⟨rfl, N0, rfl⟩
  · show Steps p.tables e below (s₁.setTop (mkF m 0 #[.val (.ref r1)] [])) _
    refine XS.aloadN X0.here hx rfl (hb hby d20_0) rfl rfl ?_
    refine st1 _ ?_
    refine XS.aloadN X1.here hx rfl (hb hby d20_4) rfl rfl ?_
    refine st2 _ ?_
    refine XS.icmpNo X2.here hx rfl (hb hby d20_8) rfl (by decide) ?_
    refine XS.iconst X2.here hx rfl (hb hby d20_11) ?_
    refine XS.goto X2.here hx rfl (pc0 := 12) (pc' := 16) rfl (hb hby d20_12) (by decide) (by decide) ?_
    exact retN X2 hx (t := .boolean) hret (by simp) (hb hby d20_16) hr
theorem rm31_0 (l : Launch) (Z : State) (a0 : Array Value) (hw : own_HW a0 Z) (r1 : Addr) (r2 : Addr) (w_x0 : Addr) (w_x1 : Addr) (w_x2 : Addr) (k_r2 : ClassId) (h0 : Heap) (n0 : Nat) (O0 : Old Z n0 h0) (P1 : Fld Z h0 r1 sN7 "elements" sN4 (.ref r2)) (P2 : Ovr Z k_r2 sN1) (P3 : Arv Z h0 r2 k_r2 (.object sN1) (3 : Int32) [(.ref w_x0), (.ref w_x1), (.ref w_x2)] .null) :
    own_Ct l Z yN23 jdk_45_method_4_code 2 (some (.object sN1)) ({ frames := 0, cells := 0, slots := 0, locals := 0 } : Room) #[(.ref r1), (.int (0 : Int32))] h0 (own_QP (some (.ref w_x0)) n0 h0) := by
  refine own_enter (own := sN7) rfl (plainFor_of_name pn_13) ?_
  intro p e s m below meth c s₁ X0 hx hby hml hown hnm hret hZ e0
  have N0 := Fr.nil n0
  obtain ⟨T1, X1, e1, st1⟩ := getF X0 hx hZ hown (host := "") (Or.inl (w121 hw)) Via.refl e0 P1 (g := (mkF m 1 #[.val (.ref r1), .val (.int (0 : Int32))] [(.ref r1)])) rfl rfl (hb hby d31_1)
  obtain ⟨cl2, Ar2, -, Sr2, -, Hr2, -⟩ := id P3
  have hin2 : ¬ ((0 : Int32) < 0 ∨ cl2.slots.size ≤ ((0 : Int32) : Int32).toNatClampNeg) := inb_of Sr2 ⟨by decide, by decide⟩
  have hat2 : cl2.slots[((0 : Int32) : Int32).toNatClampNeg]? = some (.ref w_x0) := Has.at Hr2 hin2 rfl
  refine ⟨(some (.ref w_x0)), _, _, _, _, X1, (fun h => nomatch h), ?_, by decide, by decide, fun fs hr => castTop (ef_31_RI m r1 (0 : Int32)) ?_⟩
  · show own_QP (some (.ref w_x0)) n0 h0 _ T1.heap _
    rw [e1]
    exact ⟨rfl, N0, rfl⟩
  · show Steps p.tables e below (s₁.setTop (mkF m 0 #[.val (.ref r1), .val (.int (0 : Int32))] [])) _
    refine XS.aloadN X0.here hx rfl (hb hby d31_0) rfl rfl ?_
    refine st1 _ ?_
    refine XS.iloadN X1.here hx rfl (hb hby d31_4) rfl ?_
    refine X1.aaload hx (j := (0 : Int32)) (v := (.ref w_x0)) (by rw [e1]; exact Ar2.1) (State.isArrayOf_alike hZ.alike Ar2.2.1) rfl Ar2.2.2 hin2 hat2 (g := (mkF m 5 #[.val (.ref r1), .val (.int (0 : Int32))] [(.int (0 : Int32)), (.ref r2)])) rfl rfl (hb hby d31_5) _ ?_
    exact retA X1 hx hret rfl rfl rfl (hb hby d31_6) hr
def Q_rm30_3 (Z : State) (r1 : Addr) (r2 : Addr) (r3 : Addr) (w_x0 : Addr) (w_x1 : Addr) (w_x2 : Addr) (k_r3 : ClassId) (n0 : Nat) (h0 : Heap) (v : Option Value) (h : Heap) (L : List Loc) : Prop := v = (some (.ref w_x0)) ∧ Fr n0 L ∧ Keep h0 h [r1] ∧ Fld Z h r1 sN5 "cursor" "I" (.int (1 : Int32)) ∧ Fld Z h r1 sN5 "list" sN10 (.ref r2) ∧ Fld Z h r1 sN5 "size" "I" (.int (3 : Int32)) ∧ Fld Z h r1 sN5 sN19 "Z" (.int (0 : Int32))
theorem rm30_3 (l : Launch) (Z : State) (a0 : Array Value) (hw : ∀ d ∈ tables_1, d.before a0 Z = true) (r1 : Addr) (r2 : Addr) (r3 : Addr) (w_x0 : Addr) (w_x1 : Addr) (w_x2 : Addr) (k_r3 : ClassId) (h0 : Heap) (n0 : Nat) (O0 : Old Z n0 h0) (P1 : Fld Z h0 r1 sN5 "cursor" "I" (.int (0 : Int32))) (P2 : Fld Z h0 r1 sN5 "list" sN10 (.ref r2)) (P3 : Exa Z h0 r2 sN7) (P4 : Fld Z h0 r2 sN7 "elements" sN4 (.ref r3)) (P5 : Ovr Z k_r3 sN1) (P6 : Arv Z h0 r3 k_r3 (.object sN1) (3 : Int32) [(.ref w_x0), (.ref w_x1), (.ref w_x2)] .null) (P7 : Exa Z h0 r1 sN5) (P8 : Fld Z h0 r1 sN5 "size" "I" (.int (3 : Int32))) (P9 : Fld Z h0 r1 sN5 sN19 "Z" (.int (0 : Int32))) (P10 : n0 ≤ r1) :
    MetFree l yN0 (head1 [Jvm.Cond.codeWith yN0 jdk_53_method_4_code 3 (some (.object sN1)) [((0 : Nat), (24 : Nat), (25 : Nat), (30 : Nat))]] ({ frames := 1, cells := 0, slots := 0, locals := 13 } : Room)) (fun a U => a = #[(.ref r1)] ∧ Z.Warmed39 U.vm ∧ U.heap = h0) (fun _ _ _ _ _ => True) (fun _ U o U' => ∃ v L, o = .returned v ∧ Q_rm30_3 Z r1 r2 r3 w_x0 w_x1 w_x2 k_r3 n0 h0 v U'.heap L ∧ FrameEnd U o U' L ({ frames := 1, cells := 0, slots := 0, locals := 13 } : Room).cells ({ frames := 1, cells := 0, slots := 0, locals := 13 } : Room).slots) := by
  refine MetFree.of_bodySF (plainFor_of_name pn_16) hisWith ?_
  intro p e s m args below meth c s₁ Bd hml0 hP hK
  obtain ⟨rfl, hZ, hh⟩ := hP
  have hx := Bd.exec
  have hby := Bd.bytes
  have hml : c.maxLocals = 3 := hml0
  have hown : s.vm.findClass sN5 = some m.cls := findClass_of_methodNamed Bd.named
  have hnm := (name_of_methodNamed Bd.named Bd.method).1
  have X0 : Stand p l e ({ frames := 1, cells := 0, slots := 0, locals := 13 } : Room) s m #[(.ref r1)] below meth c s₁ [] 0 0 := Stand.of_body Bd
  have e0 : s₁.heap = h0 := by rw [← hh, Bd.state]; rfl
  have N0 := Fr.nil n0
  have pre0 : ∀ t, Steps p.tables e below (s₁.setTop (mkF m 0 #[.val (.ref r1), .unset, .unset] [])) t → Steps p.tables e below (s₁.setTop (entryFrame m #[(.ref r1)] 3)) t := fun t k => castTop (ef_30_R m r1) k
  obtain ⟨T1, X1, e1, st1⟩ := getF X0 hx hZ hown (host := "") (Or.inl (w152 hw)) Via.refl e0 P1 (g := (mkF m 1 #[.val (.ref r1), .unset, .unset] [(.ref r1)])) rfl rfl (hb hby d30_1)
  obtain ⟨T2, X2, e2, st2⟩ := getF X1 hx hZ hown (host := "") (Or.inl (w148 hw)) Via.refl e1 P2 (g := (mkF m 6 #[.val (.ref r1), .val (.int (0 : Int32)), .unset] [(.ref r1)])) rfl rfl (hb hby d30_6)
  obtain ⟨_, T3, L3, X3, hQ3, st3⟩ := own_cF X2 hx hZ hown (w231 hw) (w232 hw) (w233 hw) (w234 hw) (w235 hw) (w236 hw) (w237 hw) (w118 hw) (w119 hw) (w238 hw) P3 (rm31_0 l Z a0 hw r2 r3 w_x0 w_x1 w_x2 k_r3 h0 n0 O0 P4 P5 P6) e2 (hb hby d30_10) hml pd_47 [(.int (0 : Int32))] [] (g := (mkF m 10 #[.val (.ref r1), .val (.int (0 : Int32)), .unset] [(.int (0 : Int32)), (.ref r2)]))
  obtain ⟨rfl, N3q, e3⟩ := hQ3
  have N3 := Fr.app N0 N3q
  obtain ⟨T4, h4, X4, e4, W4, st4⟩ := putF X3 hx hZ hown (host := "") (Or.inl (w152 hw)) Via.refl e3 P1 P7 (Or.inl (w153 hw)) (w137 hw) (ty := .int) (by decide) rfl rfl (g := (mkF m 20 #[.val (.ref r1), .val (.int (0 : Int32)), .val (.ref w_x0)] [(.int (1 : Int32)), (.ref r1)])) rfl rfl (hb hby d30_20)
  have Fw4 := P1.same W4
  have KK4 : Keep h0 h4 [r1] := (Keep.refl h0 [r1]).wr W4 (Or.inl (List.mem_of_getElem? (i := 0) rfl))
  have O4 := O0.wr W4 P10
  have N4 := Fr.snoc X4 N3 P10
  have fc5 := (P2.other W4 (Or.inr (slot_ne (Or.inr (w149 hw)) (Or.inl (w153 hw)) (by decide) (t := (.object sN3)) (t' := .int) (by decide) (by decide))))
  have fc6 := (P8.other W4 (Or.inr (slot_ne (Or.inr (w151 hw)) (Or.inl (w153 hw)) (by decide) (t := .int) (t' := .int) (by decide) (by decide))))
  have fc7 := (P9.other W4 (Or.inr (slot_ne (Or.inr (w155 hw)) (Or.inl (w153 hw)) (by decide) (t := .boolean) (t' := .int) (by decide) (by decide))))
  obtain ⟨fs, hr, hrun, hended, hW, hsame⟩ := X4.leave (v := (some (.ref w_x0))) (fun h => by rw [Bd.returns] at h; cases h)
  refine ⟨_, _, pre0 _ ?_, hrun, hended, _, _, rfl, ?_, ⟨_, rfl⟩, hW, hsame.mono (by decide) (by decide)⟩
  · show Steps p.tables e below (s₁.setTop (mkF m 0 #[.val (.ref r1), .unset, .unset] [])) _
    refine XS.aloadN X0.here hx rfl (hb hby d30_0) rfl rfl ?_
    refine st1 _ ?_
    refine XS.istoreN X1.here hx rfl (hb hby d30_4) rfl (l' := #[.val (.ref r1), .val (.int (0 : Int32)), .unset]) rfl ?_
    refine XS.aloadN X1.here hx rfl (hb hby d30_5) rfl rfl ?_
    refine st2 _ ?_
    refine XS.iloadN X2.here hx rfl (hb hby d30_9) rfl ?_
    refine st3 _ ?_
    refine XS.astoreN X3.here hx rfl (hb hby d30_15) rfl rfl (l' := #[.val (.ref r1), .val (.int (0 : Int32)), .val (.ref w_x0)]) rfl ?_
    show Steps p.tables e below (T3.setTop (mkF m 16 #[.val (.ref r1), .val (.int (0 : Int32)), .val (.ref w_x0)] [])) _
    refine XS.aloadN X3.here hx rfl (hb hby d30_16) rfl rfl ?_
    refine XS.iloadN X3.here hx rfl (hb hby d30_17) rfl ?_
    refine XS.iconst X3.here hx rfl (hb hby d30_18) ?_
    refine XS.iadd X3.here hx rfl (hb hby d30_19) rfl ?_
    show Steps p.tables e below (T3.setTop (mkF m 20 #[.val (.ref r1), .val (.int (0 : Int32)), .val (.ref w_x0)] [(.int ((0 : Int32) + (1 : Int32))), (.ref r1)])) _
    rw [fo_0]
    refine st4 _ ?_
    refine XS.aloadN X4.here hx rfl (hb hby d30_23) rfl rfl ?_
    exact retA X4 hx Bd.returns rfl rfl rfl (hb hby d30_24) hr
  · show Q_rm30_3 Z r1 r2 r3 w_x0 w_x1 w_x2 k_r3 n0 h0 _ T4.heap _
    rw [e4]
    exact ⟨rfl, N4, KK4, Fw4, fc5, fc6, fc7⟩
theorem rm20_7 (l : Launch) (Z : State) (a0 : Array Value) (hw : own_HW a0 Z) (r1 : Addr) (h0 : Heap) (n0 : Nat) (O0 : Old Z n0 h0) (P1 : Fld Z h0 r1 sN5 "cursor" "I" (.int (1 : Int32))) (P2 : Fld Z h0 r1 sN5 "size" "I" (.int (3 : Int32))) :
    own_Ct l Z yN2 jdk_53_method_3_code 1 (some .boolean) ({ frames := 0, cells := 0, slots := 0, locals := 0 } : Room) #[(.ref r1)] h0 (own_QP (some (.int (1 : Int32))) n0 h0) := by
  refine own_enter (own := sN5) rfl (plainFor_of_name pn_16) ?_
  intro p e s m below meth c s₁ X0 hx hby hml hown hnm hret hZ e0
  have N0 := Fr.nil n0
  obtain ⟨T1, X1, e1, st1⟩ := getF X0 hx hZ hown (host := "") (Or.inl (w152 hw)) Via.refl e0 P1 (g := (mkF m 1 #[.val (.ref r1)] [(.ref r1)])) rfl rfl (hb hby d20_1)
  obtain ⟨T2, X2, e2, st2⟩ := getF X1 hx hZ hown (host := "") (Or.inl (w150 hw)) Via.refl e1 P2 (g := (mkF m 5 #[.val (.ref r1)] [(.ref r1), (.int (1 : Int32))])) rfl rfl (hb hby d20_5)
  refine ⟨(some (.int (1 : Int32))), _, _, _, _, X2, (fun h => nomatch h), ?_, by decide, by decide, fun fs hr => castTop (ef_20_R m r1) ?_⟩
  · show own_QP (some (.int (1 : Int32))) n0 h0 _ T2.heap _
    rw [e2]
    exact ⟨rfl, N0, rfl⟩
  · show Steps p.tables e below (s₁.setTop (mkF m 0 #[.val (.ref r1)] [])) _
    refine XS.aloadN X0.here hx rfl (hb hby d20_0) rfl rfl ?_
    refine st1 _ ?_
    refine XS.aloadN X1.here hx rfl (hb hby d20_4) rfl rfl ?_
    refine st2 _ ?_
    refine XS.icmpNo X2.here hx rfl (hb hby d20_8) rfl (by decide) ?_
    refine XS.iconst X2.here hx rfl (hb hby d20_11) ?_
    refine XS.goto X2.here hx rfl (pc0 := 12) (pc' := 16) rfl (hb hby d20_12) (by decide) (by decide) ?_
    exact retN X2 hx (t := .boolean) hret (by simp) (hb hby d20_16) hr
theorem rm31_1 (l : Launch) (Z : State) (a0 : Array Value) (hw : own_HW a0 Z) (r1 : Addr) (r2 : Addr) (w_x0 : Addr) (w_x1 : Addr) (w_x2 : Addr) (k_r2 : ClassId) (h0 : Heap) (n0 : Nat) (O0 : Old Z n0 h0) (P1 : Fld Z h0 r1 sN7 "elements" sN4 (.ref r2)) (P2 : Ovr Z k_r2 sN1) (P3 : Arv Z h0 r2 k_r2 (.object sN1) (3 : Int32) [(.ref w_x0), (.ref w_x1), (.ref w_x2)] .null) :
    own_Ct l Z yN23 jdk_45_method_4_code 2 (some (.object sN1)) ({ frames := 0, cells := 0, slots := 0, locals := 0 } : Room) #[(.ref r1), (.int (1 : Int32))] h0 (own_QP (some (.ref w_x1)) n0 h0) := by
  refine own_enter (own := sN7) rfl (plainFor_of_name pn_13) ?_
  intro p e s m below meth c s₁ X0 hx hby hml hown hnm hret hZ e0
  have N0 := Fr.nil n0
  obtain ⟨T1, X1, e1, st1⟩ := getF X0 hx hZ hown (host := "") (Or.inl (w121 hw)) Via.refl e0 P1 (g := (mkF m 1 #[.val (.ref r1), .val (.int (1 : Int32))] [(.ref r1)])) rfl rfl (hb hby d31_1)
  obtain ⟨cl2, Ar2, -, Sr2, -, Hr2, -⟩ := id P3
  have hin2 : ¬ ((1 : Int32) < 0 ∨ cl2.slots.size ≤ ((1 : Int32) : Int32).toNatClampNeg) := inb_of Sr2 ⟨by decide, by decide⟩
  have hat2 : cl2.slots[((1 : Int32) : Int32).toNatClampNeg]? = some (.ref w_x1) := Has.at Hr2 hin2 rfl
  refine ⟨(some (.ref w_x1)), _, _, _, _, X1, (fun h => nomatch h), ?_, by decide, by decide, fun fs hr => castTop (ef_31_RI m r1 (1 : Int32)) ?_⟩
  · show own_QP (some (.ref w_x1)) n0 h0 _ T1.heap _
    rw [e1]
    exact ⟨rfl, N0, rfl⟩
  · show Steps p.tables e below (s₁.setTop (mkF m 0 #[.val (.ref r1), .val (.int (1 : Int32))] [])) _
    refine XS.aloadN X0.here hx rfl (hb hby d31_0) rfl rfl ?_
    refine st1 _ ?_
    refine XS.iloadN X1.here hx rfl (hb hby d31_4) rfl ?_
    refine X1.aaload hx (j := (1 : Int32)) (v := (.ref w_x1)) (by rw [e1]; exact Ar2.1) (State.isArrayOf_alike hZ.alike Ar2.2.1) rfl Ar2.2.2 hin2 hat2 (g := (mkF m 5 #[.val (.ref r1), .val (.int (1 : Int32))] [(.int (1 : Int32)), (.ref r2)])) rfl rfl (hb hby d31_5) _ ?_
    exact retA X1 hx hret rfl rfl rfl (hb hby d31_6) hr
def Q_rm30_4 (Z : State) (r1 : Addr) (r2 : Addr) (r3 : Addr) (w_x0 : Addr) (w_x1 : Addr) (w_x2 : Addr) (k_r3 : ClassId) (n0 : Nat) (h0 : Heap) (v : Option Value) (h : Heap) (L : List Loc) : Prop := v = (some (.ref w_x1)) ∧ Fr n0 L ∧ Keep h0 h [r1] ∧ Fld Z h r1 sN5 "cursor" "I" (.int (2 : Int32)) ∧ Fld Z h r1 sN5 "list" sN10 (.ref r2) ∧ Fld Z h r1 sN5 "size" "I" (.int (3 : Int32)) ∧ Fld Z h r1 sN5 sN19 "Z" (.int (0 : Int32))
theorem rm30_4 (l : Launch) (Z : State) (a0 : Array Value) (hw : ∀ d ∈ tables_1, d.before a0 Z = true) (r1 : Addr) (r2 : Addr) (r3 : Addr) (w_x0 : Addr) (w_x1 : Addr) (w_x2 : Addr) (k_r3 : ClassId) (h0 : Heap) (n0 : Nat) (O0 : Old Z n0 h0) (P1 : Fld Z h0 r1 sN5 "cursor" "I" (.int (1 : Int32))) (P2 : Fld Z h0 r1 sN5 "list" sN10 (.ref r2)) (P3 : Exa Z h0 r2 sN7) (P4 : Fld Z h0 r2 sN7 "elements" sN4 (.ref r3)) (P5 : Ovr Z k_r3 sN1) (P6 : Arv Z h0 r3 k_r3 (.object sN1) (3 : Int32) [(.ref w_x0), (.ref w_x1), (.ref w_x2)] .null) (P7 : Exa Z h0 r1 sN5) (P8 : Fld Z h0 r1 sN5 "size" "I" (.int (3 : Int32))) (P9 : Fld Z h0 r1 sN5 sN19 "Z" (.int (0 : Int32))) (P10 : n0 ≤ r1) :
    MetFree l yN0 (head1 [Jvm.Cond.codeWith yN0 jdk_53_method_4_code 3 (some (.object sN1)) [((0 : Nat), (24 : Nat), (25 : Nat), (30 : Nat))]] ({ frames := 1, cells := 0, slots := 0, locals := 13 } : Room)) (fun a U => a = #[(.ref r1)] ∧ Z.Warmed39 U.vm ∧ U.heap = h0) (fun _ _ _ _ _ => True) (fun _ U o U' => ∃ v L, o = .returned v ∧ Q_rm30_4 Z r1 r2 r3 w_x0 w_x1 w_x2 k_r3 n0 h0 v U'.heap L ∧ FrameEnd U o U' L ({ frames := 1, cells := 0, slots := 0, locals := 13 } : Room).cells ({ frames := 1, cells := 0, slots := 0, locals := 13 } : Room).slots) := by
  refine MetFree.of_bodySF (plainFor_of_name pn_16) hisWith ?_
  intro p e s m args below meth c s₁ Bd hml0 hP hK
  obtain ⟨rfl, hZ, hh⟩ := hP
  have hx := Bd.exec
  have hby := Bd.bytes
  have hml : c.maxLocals = 3 := hml0
  have hown : s.vm.findClass sN5 = some m.cls := findClass_of_methodNamed Bd.named
  have hnm := (name_of_methodNamed Bd.named Bd.method).1
  have X0 : Stand p l e ({ frames := 1, cells := 0, slots := 0, locals := 13 } : Room) s m #[(.ref r1)] below meth c s₁ [] 0 0 := Stand.of_body Bd
  have e0 : s₁.heap = h0 := by rw [← hh, Bd.state]; rfl
  have N0 := Fr.nil n0
  have pre0 : ∀ t, Steps p.tables e below (s₁.setTop (mkF m 0 #[.val (.ref r1), .unset, .unset] [])) t → Steps p.tables e below (s₁.setTop (entryFrame m #[(.ref r1)] 3)) t := fun t k => castTop (ef_30_R m r1) k
  obtain ⟨T1, X1, e1, st1⟩ := getF X0 hx hZ hown (host := "") (Or.inl (w152 hw)) Via.refl e0 P1 (g := (mkF m 1 #[.val (.ref r1), .unset, .unset] [(.ref r1)])) rfl rfl (hb hby d30_1)
  obtain ⟨T2, X2, e2, st2⟩ := getF X1 hx hZ hown (host := "") (Or.inl (w148 hw)) Via.refl e1 P2 (g := (mkF m 6 #[.val (.ref r1), .val (.int (1 : Int32)), .unset] [(.ref r1)])) rfl rfl (hb hby d30_6)
  obtain ⟨_, T3, L3, X3, hQ3, st3⟩ := own_cF X2 hx hZ hown (w231 hw) (w232 hw) (w233 hw) (w234 hw) (w235 hw) (w236 hw) (w237 hw) (w118 hw) (w119 hw) (w238 hw) P3 (rm31_1 l Z a0 hw r2 r3 w_x0 w_x1 w_x2 k_r3 h0 n0 O0 P4 P5 P6) e2 (hb hby d30_10) hml pd_47 [(.int (1 : Int32))] [] (g := (mkF m 10 #[.val (.ref r1), .val (.int (1 : Int32)), .unset] [(.int (1 : Int32)), (.ref r2)]))
  obtain ⟨rfl, N3q, e3⟩ := hQ3
  have N3 := Fr.app N0 N3q
  obtain ⟨T4, h4, X4, e4, W4, st4⟩ := putF X3 hx hZ hown (host := "") (Or.inl (w152 hw)) Via.refl e3 P1 P7 (Or.inl (w153 hw)) (w137 hw) (ty := .int) (by decide) rfl rfl (g := (mkF m 20 #[.val (.ref r1), .val (.int (1 : Int32)), .val (.ref w_x1)] [(.int (2 : Int32)), (.ref r1)])) rfl rfl (hb hby d30_20)
  have Fw4 := P1.same W4
  have KK4 : Keep h0 h4 [r1] := (Keep.refl h0 [r1]).wr W4 (Or.inl (List.mem_of_getElem? (i := 0) rfl))
  have O4 := O0.wr W4 P10
  have N4 := Fr.snoc X4 N3 P10
  have fc5 := (P2.other W4 (Or.inr (slot_ne (Or.inr (w149 hw)) (Or.inl (w153 hw)) (by decide) (t := (.object sN3)) (t' := .int) (by decide) (by decide))))
  have fc6 := (P8.other W4 (Or.inr (slot_ne (Or.inr (w151 hw)) (Or.inl (w153 hw)) (by decide) (t := .int) (t' := .int) (by decide) (by decide))))
  have fc7 := (P9.other W4 (Or.inr (slot_ne (Or.inr (w155 hw)) (Or.inl (w153 hw)) (by decide) (t := .boolean) (t' := .int) (by decide) (by decide))))
  obtain ⟨fs, hr, hrun, hended, hW, hsame⟩ := X4.leave (v := (some (.ref w_x1))) (fun h => by rw [Bd.returns] at h; cases h)
  refine ⟨_, _, pre0 _ ?_, hrun, hended, _, _, rfl, ?_, ⟨_, rfl⟩, hW, hsame.mono (by decide) (by decide)⟩
  · show Steps p.tables e below (s₁.setTop (mkF m 0 #[.val (.ref r1), .unset, .unset] [])) _
    refine XS.aloadN X0.here hx rfl (hb hby d30_0) rfl rfl ?_
    refine st1 _ ?_
    refine XS.istoreN X1.here hx rfl (hb hby d30_4) rfl (l' := #[.val (.ref r1), .val (.int (1 : Int32)), .unset]) rfl ?_
    refine XS.aloadN X1.here hx rfl (hb hby d30_5) rfl rfl ?_
    refine st2 _ ?_
    refine XS.iloadN X2.here hx rfl (hb hby d30_9) rfl ?_
    refine st3 _ ?_
    refine XS.astoreN X3.here hx rfl (hb hby d30_15) rfl rfl (l' := #[.val (.ref r1), .val (.int (1 : Int32)), .val (.ref w_x1)]) rfl ?_
    show Steps p.tables e below (T3.setTop (mkF m 16 #[.val (.ref r1), .val (.int (1 : Int32)), .val (.ref w_x1)] [])) _
    refine XS.aloadN X3.here hx rfl (hb hby d30_16) rfl rfl ?_
    refine XS.iloadN X3.here hx rfl (hb hby d30_17) rfl ?_
    refine XS.iconst X3.here hx rfl (hb hby d30_18) ?_
    refine XS.iadd X3.here hx rfl (hb hby d30_19) rfl ?_
    show Steps p.tables e below (T3.setTop (mkF m 20 #[.val (.ref r1), .val (.int (1 : Int32)), .val (.ref w_x1)] [(.int ((1 : Int32) + (1 : Int32))), (.ref r1)])) _
    rw [fo_1]
    refine st4 _ ?_
    refine XS.aloadN X4.here hx rfl (hb hby d30_23) rfl rfl ?_
    exact retA X4 hx Bd.returns rfl rfl rfl (hb hby d30_24) hr
  · show Q_rm30_4 Z r1 r2 r3 w_x0 w_x1 w_x2 k_r3 n0 h0 _ T4.heap _
    rw [e4]
    exact ⟨rfl, N4, KK4, Fw4, fc5, fc6, fc7⟩
theorem rm20_8 (l : Launch) (Z : State) (a0 : Array Value) (hw : own_HW a0 Z) (r1 : Addr) (h0 : Heap) (n0 : Nat) (O0 : Old Z n0 h0) (P1 : Fld Z h0 r1 sN5 "cursor" "I" (.int (2 : Int32))) (P2 : Fld Z h0 r1 sN5 "size" "I" (.int (3 : Int32))) :
    own_Ct l Z yN2 jdk_53_method_3_code 1 (some .boolean) ({ frames := 0, cells := 0, slots := 0, locals := 0 } : Room) #[(.ref r1)] h0 (own_QP (some (.int (1 : Int32))) n0 h0) := by
  refine own_enter (own := sN5) rfl (plainFor_of_name pn_16) ?_
  intro p e s m below meth c s₁ X0 hx hby hml hown hnm hret hZ e0
  have N0 := Fr.nil n0
  obtain ⟨T1, X1, e1, st1⟩ := getF X0 hx hZ hown (host := "") (Or.inl (w152 hw)) Via.refl e0 P1 (g := (mkF m 1 #[.val (.ref r1)] [(.ref r1)])) rfl rfl (hb hby d20_1)
  obtain ⟨T2, X2, e2, st2⟩ := getF X1 hx hZ hown (host := "") (Or.inl (w150 hw)) Via.refl e1 P2 (g := (mkF m 5 #[.val (.ref r1)] [(.ref r1), (.int (2 : Int32))])) rfl rfl (hb hby d20_5)
  refine ⟨(some (.int (1 : Int32))), _, _, _, _, X2, (fun h => nomatch h), ?_, by decide, by decide, fun fs hr => castTop (ef_20_R m r1) ?_⟩
  · show own_QP (some (.int (1 : Int32))) n0 h0 _ T2.heap _
    rw [e2]
    exact ⟨rfl, N0, rfl⟩
  · show Steps p.tables e below (s₁.setTop (mkF m 0 #[.val (.ref r1)] [])) _
    refine XS.aloadN X0.here hx rfl (hb hby d20_0) rfl rfl ?_
    refine st1 _ ?_
    refine XS.aloadN X1.here hx rfl (hb hby d20_4) rfl rfl ?_
    refine st2 _ ?_
    refine XS.icmpNo X2.here hx rfl (hb hby d20_8) rfl (by decide) ?_
    refine XS.iconst X2.here hx rfl (hb hby d20_11) ?_
    refine XS.goto X2.here hx rfl (pc0 := 12) (pc' := 16) rfl (hb hby d20_12) (by decide) (by decide) ?_
    exact retN X2 hx (t := .boolean) hret (by simp) (hb hby d20_16) hr
theorem rm31_2 (l : Launch) (Z : State) (a0 : Array Value) (hw : own_HW a0 Z) (r1 : Addr) (r2 : Addr) (w_x0 : Addr) (w_x1 : Addr) (w_x2 : Addr) (k_r2 : ClassId) (h0 : Heap) (n0 : Nat) (O0 : Old Z n0 h0) (P1 : Fld Z h0 r1 sN7 "elements" sN4 (.ref r2)) (P2 : Ovr Z k_r2 sN1) (P3 : Arv Z h0 r2 k_r2 (.object sN1) (3 : Int32) [(.ref w_x0), (.ref w_x1), (.ref w_x2)] .null) :
    own_Ct l Z yN23 jdk_45_method_4_code 2 (some (.object sN1)) ({ frames := 0, cells := 0, slots := 0, locals := 0 } : Room) #[(.ref r1), (.int (2 : Int32))] h0 (own_QP (some (.ref w_x2)) n0 h0) := by
  refine own_enter (own := sN7) rfl (plainFor_of_name pn_13) ?_
  intro p e s m below meth c s₁ X0 hx hby hml hown hnm hret hZ e0
  have N0 := Fr.nil n0
  obtain ⟨T1, X1, e1, st1⟩ := getF X0 hx hZ hown (host := "") (Or.inl (w121 hw)) Via.refl e0 P1 (g := (mkF m 1 #[.val (.ref r1), .val (.int (2 : Int32))] [(.ref r1)])) rfl rfl (hb hby d31_1)
  obtain ⟨cl2, Ar2, -, Sr2, -, Hr2, -⟩ := id P3
  have hin2 : ¬ ((2 : Int32) < 0 ∨ cl2.slots.size ≤ ((2 : Int32) : Int32).toNatClampNeg) := inb_of Sr2 ⟨by decide, by decide⟩
  have hat2 : cl2.slots[((2 : Int32) : Int32).toNatClampNeg]? = some (.ref w_x2) := Has.at Hr2 hin2 rfl
  refine ⟨(some (.ref w_x2)), _, _, _, _, X1, (fun h => nomatch h), ?_, by decide, by decide, fun fs hr => castTop (ef_31_RI m r1 (2 : Int32)) ?_⟩
  · show own_QP (some (.ref w_x2)) n0 h0 _ T1.heap _
    rw [e1]
    exact ⟨rfl, N0, rfl⟩
  · show Steps p.tables e below (s₁.setTop (mkF m 0 #[.val (.ref r1), .val (.int (2 : Int32))] [])) _
    refine XS.aloadN X0.here hx rfl (hb hby d31_0) rfl rfl ?_
    refine st1 _ ?_
    refine XS.iloadN X1.here hx rfl (hb hby d31_4) rfl ?_
    refine X1.aaload hx (j := (2 : Int32)) (v := (.ref w_x2)) (by rw [e1]; exact Ar2.1) (State.isArrayOf_alike hZ.alike Ar2.2.1) rfl Ar2.2.2 hin2 hat2 (g := (mkF m 5 #[.val (.ref r1), .val (.int (2 : Int32))] [(.int (2 : Int32)), (.ref r2)])) rfl rfl (hb hby d31_5) _ ?_
    exact retA X1 hx hret rfl rfl rfl (hb hby d31_6) hr
def Q_rm30_5 (Z : State) (r1 : Addr) (r2 : Addr) (r3 : Addr) (w_x0 : Addr) (w_x1 : Addr) (w_x2 : Addr) (k_r3 : ClassId) (n0 : Nat) (h0 : Heap) (v : Option Value) (h : Heap) (L : List Loc) : Prop := v = (some (.ref w_x2)) ∧ Fr n0 L ∧ Keep h0 h [r1] ∧ Fld Z h r1 sN5 "cursor" "I" (.int (3 : Int32)) ∧ Fld Z h r1 sN5 "list" sN10 (.ref r2) ∧ Fld Z h r1 sN5 "size" "I" (.int (3 : Int32)) ∧ Fld Z h r1 sN5 sN19 "Z" (.int (0 : Int32))
theorem rm30_5 (l : Launch) (Z : State) (a0 : Array Value) (hw : ∀ d ∈ tables_1, d.before a0 Z = true) (r1 : Addr) (r2 : Addr) (r3 : Addr) (w_x0 : Addr) (w_x1 : Addr) (w_x2 : Addr) (k_r3 : ClassId) (h0 : Heap) (n0 : Nat) (O0 : Old Z n0 h0) (P1 : Fld Z h0 r1 sN5 "cursor" "I" (.int (2 : Int32))) (P2 : Fld Z h0 r1 sN5 "list" sN10 (.ref r2)) (P3 : Exa Z h0 r2 sN7) (P4 : Fld Z h0 r2 sN7 "elements" sN4 (.ref r3)) (P5 : Ovr Z k_r3 sN1) (P6 : Arv Z h0 r3 k_r3 (.object sN1) (3 : Int32) [(.ref w_x0), (.ref w_x1), (.ref w_x2)] .null) (P7 : Exa Z h0 r1 sN5) (P8 : Fld Z h0 r1 sN5 "size" "I" (.int (3 : Int32))) (P9 : Fld Z h0 r1 sN5 sN19 "Z" (.int (0 : Int32))) (P10 : n0 ≤ r1) :
    MetFree l yN0 (head1 [Jvm.Cond.codeWith yN0 jdk_53_method_4_code 3 (some (.object sN1)) [((0 : Nat), (24 : Nat), (25 : Nat), (30 : Nat))]] ({ frames := 1, cells := 0, slots := 0, locals := 13 } : Room)) (fun a U => a = #[(.ref r1)] ∧ Z.Warmed39 U.vm ∧ U.heap = h0) (fun _ _ _ _ _ => True) (fun _ U o U' => ∃ v L, o = .returned v ∧ Q_rm30_5 Z r1 r2 r3 w_x0 w_x1 w_x2 k_r3 n0 h0 v U'.heap L ∧ FrameEnd U o U' L ({ frames := 1, cells := 0, slots := 0, locals := 13 } : Room).cells ({ frames := 1, cells := 0, slots := 0, locals := 13 } : Room).slots) := by
  refine MetFree.of_bodySF (plainFor_of_name pn_16) hisWith ?_
  intro p e s m args below meth c s₁ Bd hml0 hP hK
  obtain ⟨rfl, hZ, hh⟩ := hP
  have hx := Bd.exec
  have hby := Bd.bytes
  have hml : c.maxLocals = 3 := hml0
  have hown : s.vm.findClass sN5 = some m.cls := findClass_of_methodNamed Bd.named
  have hnm := (name_of_methodNamed Bd.named Bd.method).1
  have X0 : Stand p l e ({ frames := 1, cells := 0, slots := 0, locals := 13 } : Room) s m #[(.ref r1)] below meth c s₁ [] 0 0 := Stand.of_body Bd
  have e0 : s₁.heap = h0 := by rw [← hh, Bd.state]; rfl
  have N0 := Fr.nil n0
  have pre0 : ∀ t, Steps p.tables e below (s₁.setTop (mkF m 0 #[.val (.ref r1), .unset, .unset] [])) t → Steps p.tables e below (s₁.setTop (entryFrame m #[(.ref r1)] 3)) t := fun t k => castTop (ef_30_R m r1) k
  obtain ⟨T1, X1, e1, st1⟩ := getF X0 hx hZ hown (host := "") (Or.inl (w152 hw)) Via.refl e0 P1 (g := (mkF m 1 #[.val (.ref r1), .unset, .unset] [(.ref r1)])) rfl rfl (hb hby d30_1)
  obtain ⟨T2, X2, e2, st2⟩ := getF X1 hx hZ hown (host := "") (Or.inl (w148 hw)) Via.refl e1 P2 (g := (mkF m 6 #[.val (.ref r1), .val (.int (2 : Int32)), .unset] [(.ref r1)])) rfl rfl (hb hby d30_6)
  obtain ⟨_, T3, L3, X3, hQ3, st3⟩ := own_cF X2 hx hZ hown (w231 hw) (w232 hw) (w233 hw) (w234 hw) (w235 hw) (w236 hw) (w237 hw) (w118 hw) (w119 hw) (w238 hw) P3 (rm31_2 l Z a0 hw r2 r3 w_x0 w_x1 w_x2 k_r3 h0 n0 O0 P4 P5 P6) e2 (hb hby d30_10) hml pd_47 [(.int (2 : Int32))] [] (g := (mkF m 10 #[.val (.ref r1), .val (.int (2 : Int32)), .unset] [(.int (2 : Int32)), (.ref r2)]))
  obtain ⟨rfl, N3q, e3⟩ := hQ3
  have N3 := Fr.app N0 N3q
  obtain ⟨T4, h4, X4, e4, W4, st4⟩ := putF X3 hx hZ hown (host := "") (Or.inl (w152 hw)) Via.refl e3 P1 P7 (Or.inl (w153 hw)) (w137 hw) (ty := .int) (by decide) rfl rfl (g := (mkF m 20 #[.val (.ref r1), .val (.int (2 : Int32)), .val (.ref w_x2)] [(.int (3 : Int32)), (.ref r1)])) rfl rfl (hb hby d30_20)
  have Fw4 := P1.same W4
  have KK4 : Keep h0 h4 [r1] := (Keep.refl h0 [r1]).wr W4 (Or.inl (List.mem_of_getElem? (i := 0) rfl))
  have O4 := O0.wr W4 P10
  have N4 := Fr.snoc X4 N3 P10
  have fc5 := (P2.other W4 (Or.inr (slot_ne (Or.inr (w149 hw)) (Or.inl (w153 hw)) (by decide) (t := (.object sN3)) (t' := .int) (by decide) (by decide))))
  have fc6 := (P8.other W4 (Or.inr (slot_ne (Or.inr (w151 hw)) (Or.inl (w153 hw)) (by decide) (t := .int) (t' := .int) (by decide) (by decide))))
  have fc7 := (P9.other W4 (Or.inr (slot_ne (Or.inr (w155 hw)) (Or.inl (w153 hw)) (by decide) (t := .boolean) (t' := .int) (by decide) (by decide))))
  obtain ⟨fs, hr, hrun, hended, hW, hsame⟩ := X4.leave (v := (some (.ref w_x2))) (fun h => by rw [Bd.returns] at h; cases h)
  refine ⟨_, _, pre0 _ ?_, hrun, hended, _, _, rfl, ?_, ⟨_, rfl⟩, hW, hsame.mono (by decide) (by decide)⟩
  · show Steps p.tables e below (s₁.setTop (mkF m 0 #[.val (.ref r1), .unset, .unset] [])) _
    refine XS.aloadN X0.here hx rfl (hb hby d30_0) rfl rfl ?_
    refine st1 _ ?_
    refine XS.istoreN X1.here hx rfl (hb hby d30_4) rfl (l' := #[.val (.ref r1), .val (.int (2 : Int32)), .unset]) rfl ?_
    refine XS.aloadN X1.here hx rfl (hb hby d30_5) rfl rfl ?_
    refine st2 _ ?_
    refine XS.iloadN X2.here hx rfl (hb hby d30_9) rfl ?_
    refine st3 _ ?_
    refine XS.astoreN X3.here hx rfl (hb hby d30_15) rfl rfl (l' := #[.val (.ref r1), .val (.int (2 : Int32)), .val (.ref w_x2)]) rfl ?_
    show Steps p.tables e below (T3.setTop (mkF m 16 #[.val (.ref r1), .val (.int (2 : Int32)), .val (.ref w_x2)] [])) _
    refine XS.aloadN X3.here hx rfl (hb hby d30_16) rfl rfl ?_
    refine XS.iloadN X3.here hx rfl (hb hby d30_17) rfl ?_
    refine XS.iconst X3.here hx rfl (hb hby d30_18) ?_
    refine XS.iadd X3.here hx rfl (hb hby d30_19) rfl ?_
    show Steps p.tables e below (T3.setTop (mkF m 20 #[.val (.ref r1), .val (.int (2 : Int32)), .val (.ref w_x2)] [(.int ((2 : Int32) + (1 : Int32))), (.ref r1)])) _
    rw [fo_2]
    refine st4 _ ?_
    refine XS.aloadN X4.here hx rfl (hb hby d30_23) rfl rfl ?_
    exact retA X4 hx Bd.returns rfl rfl rfl (hb hby d30_24) hr
  · show Q_rm30_5 Z r1 r2 r3 w_x0 w_x1 w_x2 k_r3 n0 h0 _ T4.heap _
    rw [e4]
    exact ⟨rfl, N4, KK4, Fw4, fc5, fc6, fc7⟩
theorem rm32_2 (l : Launch) (Z : State) (a0 : Array Value) (hw : own_HW a0 Z) (w_x2 : Addr) (w_BOOLEAN : Addr) (h0 : Heap) (n0 : Nat) (O0 : Old Z n0 h0) (P1 : Fld Z Z.heap w_x2 sN9 "dataType" sN15 (.ref w_BOOLEAN)) :
    own_Ct l Z yN9 prog_166_method_11_code 1 (some (.object sN12)) ({ frames := 0, cells := 0, slots := 0, locals := 0 } : Room) #[(.ref w_x2)] h0 (own_QP (some (.ref w_BOOLEAN)) n0 h0) := by
  refine own_enter (own := sN9) rfl (plainFor_of_name pn_50) ?_
  intro p e s m below meth c s₁ X0 hx hby hml hown hnm hret hZ e0
  have N0 := Fr.nil n0
  obtain ⟨T1, X1, e1, st1⟩ := getF X0 hx hZ hown (host := "") (Or.inl (w246 hw)) Via.refl e0 (P1.ext O0.2) (g := (mkF m 1 #[.val (.ref w_x2)] [(.ref w_x2)])) rfl rfl (hb hby d32_1)
  refine ⟨(some (.ref w_BOOLEAN)), _, _, _, _, X1, (fun h => nomatch h), ?_, by decide, by decide, fun fs hr => castTop (ef_32_R m w_x2) ?_⟩
  · show own_QP (some (.ref w_BOOLEAN)) n0 h0 _ T1.heap _
    rw [e1]
    exact ⟨rfl, N0, rfl⟩
  · show Steps p.tables e below (s₁.setTop (mkF m 0 #[.val (.ref w_x2)] [])) _
    refine XS.aloadN X0.here hx rfl (hb hby d32_0) rfl rfl ?_
    refine st1 _ ?_
    exact retA X1 hx hret rfl rfl rfl (hb hby d32_4) hr
theorem rm20_9 (l : Launch) (Z : State) (a0 : Array Value) (hw : own_HW a0 Z) (r1 : Addr) (h0 : Heap) (n0 : Nat) (O0 : Old Z n0 h0) (P1 : Fld Z h0 r1 sN5 "cursor" "I" (.int (3 : Int32))) (P2 : Fld Z h0 r1 sN5 "size" "I" (.int (3 : Int32))) :
    own_Ct l Z yN2 jdk_53_method_3_code 1 (some .boolean) ({ frames := 0, cells := 0, slots := 0, locals := 0 } : Room) #[(.ref r1)] h0 (own_QP (some (.int (0 : Int32))) n0 h0) := by
  refine own_enter (own := sN5) rfl (plainFor_of_name pn_16) ?_
  intro p e s m below meth c s₁ X0 hx hby hml hown hnm hret hZ e0
  have N0 := Fr.nil n0
  obtain ⟨T1, X1, e1, st1⟩ := getF X0 hx hZ hown (host := "") (Or.inl (w152 hw)) Via.refl e0 P1 (g := (mkF m 1 #[.val (.ref r1)] [(.ref r1)])) rfl rfl (hb hby d20_1)
  obtain ⟨T2, X2, e2, st2⟩ := getF X1 hx hZ hown (host := "") (Or.inl (w150 hw)) Via.refl e1 P2 (g := (mkF m 5 #[.val (.ref r1)] [(.ref r1), (.int (3 : Int32))])) rfl rfl (hb hby d20_5)
  refine ⟨(some (.int (0 : Int32))), _, _, _, _, X2, (fun h => nomatch h), ?_, by decide, by decide, fun fs hr => castTop (ef_20_R m r1) ?_⟩
  · show own_QP (some (.int (0 : Int32))) n0 h0 _ T2.heap _
    rw [e2]
    exact ⟨rfl, N0, rfl⟩
  · show Steps p.tables e below (s₁.setTop (mkF m 0 #[.val (.ref r1)] [])) _
    refine XS.aloadN X0.here hx rfl (hb hby d20_0) rfl rfl ?_
    refine st1 _ ?_
    refine XS.aloadN X1.here hx rfl (hb hby d20_4) rfl rfl ?_
    refine st2 _ ?_
    refine XS.icmpYes X2.here hx rfl (pc0 := 8) (pc' := 15) rfl (hb hby d20_8) rfl (by decide) (by decide) (by decide) ?_
    refine XS.iconst X2.here hx rfl (hb hby d20_15) ?_
    exact retN X2 hx (t := .boolean) hret (by simp) (hb hby d20_16) hr
theorem rm11_3 (l : Launch) (Z : State) (a0 : Array Value) (hw : own_HW a0 Z) (r1 : Addr) (w_BOOLEAN : Addr) (r2 : Addr) (r3 : Addr) (w_MIR : Addr) (k_r3 : ClassId) (w_x0 : Addr) (w_x1 : Addr) (w_x2 : Addr) (h0 : Heap) (n0 : Nat) (O0 : Old Z n0 h0) (P1 : Exa Z Z.heap w_BOOLEAN sN12) (P2 : Exa Z h0 r1 sN2) (P3 : Fld Z h0 r1 sN2 "dataType" sN15 .null) (P4 : Fld Z h0 r1 sN2 "values" sN10 .null) (P5 : Fld Z h0 r1 sN2 "size" "I" (.int (0 : Int32))) (P6 : Fld Z h0 r1 sN2 "parts" sN10 .null) (P7 : n0 ≤ r1) (P8 : Exa Z h0 r2 sN0) (P9 : Fld Z h0 r2 sN0 "size" "I" (.int (3 : Int32))) (P10 : Fld Z h0 r2 sN0 "elementData" sN4 (.ref r3)) (P11 : Exa Z h0 r3 sN4) (P12 : Mir Z sN4 w_MIR) (P13 : Arv Z h0 r3 k_r3 (.object sN1) (10 : Int32) [(.ref w_x0), (.ref w_x1), (.ref w_x2), .null, .null, .null, .null, .null, .null, .null] .null) (P14 : Exa Z Z.heap w_x2 sN9) (P15 : Exa Z Z.heap w_x1 sN9) (P16 : Exa Z Z.heap w_x0 sN9) (P17 : Fld Z Z.heap w_x0 sN9 "dataType" sN15 (.ref w_BOOLEAN)) (P18 : Fld Z Z.heap w_x1 sN9 "dataType" sN15 (.ref w_BOOLEAN)) (P19 : Fld Z Z.heap w_x2 sN9 "dataType" sN15 (.ref w_BOOLEAN)) :
    own_Ct l Z yN10 prog_167_method_1_code 5 none ({ frames := 9, cells := 4, slots := 12, locals := 126 } : Room) #[(.ref r1), (.ref w_BOOLEAN), (.ref r2)] h0 (own_QB Z r1 w_BOOLEAN (3 : Int32) n0 h0) := by
  refine own_enter (own := sN2) rfl (plainFor_of_name pn_23) ?_
  intro p e s m below meth c s₁ X0 hx hby hml hown hnm hret hZ e0
  have N0 := Fr.nil n0
  obtain ⟨T1, X1, e1, st1⟩ := initO X0 hx hZ hown (w73 hw) (w19 hw) (w20 hw) e0 (g := (mkF m 1 #[.val (.ref r1), .val (.ref w_BOOLEAN), .val (.ref r2), .unset, .unset] [(.ref r1)])) rfl (by rw [hml]; rfl) rfl (hb hby d11_1) (by decide) (W := 0) (by show 2 * 0 + _ ≤ _; exact Nat.le_of_eq rfl) (by decide)
  obtain ⟨_, T2, L2, X2, hQ2, st2⟩ := own_cS X1 hx hZ hown (w74 hw) (w75 hw) (w76 hw) (w77 hw) (rm12_0 l Z a0 hw w_BOOLEAN h0 n0 O0 ) e1 (hb hby d11_6) hml pd_2 [(.ref w_BOOLEAN)] [(.ref r1)] (g := (mkF m 6 #[.val (.ref r1), .val (.ref w_BOOLEAN), .val (.ref r2), .unset, .unset] [(.ref w_BOOLEAN), (.ref r1)]))
  obtain ⟨rfl, N2q, e2⟩ := hQ2
  have N2 := Fr.app N0 N2q
  obtain ⟨T3, X3, e3, st3⟩ := castY X2 hx hZ hown (w78 hw) e2 (Ins.self (P1.ext O0.2)) (g := (mkF m 9 #[.val (.ref r1), .val (.ref w_BOOLEAN), .val (.ref r2), .unset, .unset] [(.ref w_BOOLEAN), (.ref r1)])) rfl rfl (hb hby d11_9)
  obtain ⟨T4, h4, X4, e4, W4, st4⟩ := putF X3 hx hZ hown (host := "") (Or.inl (w80 hw)) Via.refl e3 P3 P2 (Or.inr ⟨(w81 hw), rfl, hnm⟩) (w65 hw) (ty := (.object sN12)) (by decide) rfl rfl (g := (mkF m 12 #[.val (.ref r1), .val (.ref w_BOOLEAN), .val (.ref r2), .unset, .unset] [(.ref w_BOOLEAN), (.ref r1)])) rfl rfl (hb hby d11_12)
  have Fw4 := P3.same W4
  have KK4 : Keep h0 h4 [r1] := (Keep.refl h0 [r1]).wr W4 (Or.inl (List.mem_of_getElem? (i := 0) rfl))
  have O4 := O0.wr W4 P7
  have N4 := Fr.snoc X4 N2 P7
  have nz5 : r2 ≠ r1 := (ne_exa P8 P2 (by decide))
  have nz6 : r3 ≠ r1 := (ne_exa P11 P2 (by decide))
  obtain ⟨_, T7, L7, X7, hQ7, st7⟩ := own_cS X4 hx hZ hown (w82 hw) (w83 hw) (w84 hw) (w85 hw) (rm13_3 l Z a0 hw r2 r3 w_MIR w_x0 w_x1 w_x2 k_r3 h4 n0 O4 (P8.wr W4) (P9.other W4 (Or.inl nz5)) (P10.other W4 (Or.inl nz5)) (P11.wr W4) P12 (P13.other W4 nz6) P14 P15 P16) e4 (hb hby d11_17) hml pd_11 [(.ref r2)] [(.ref r1)] (g := (mkF m 17 #[.val (.ref r1), .val (.ref w_BOOLEAN), .val (.ref r2), .unset, .unset] [(.ref r2), (.ref r1)]))
  obtain ⟨b7_0, b7_1, kc7_0, rfl, N7q, K7, ge_b7_0, ge_b7_1, f7_0, f7_1, ov7_1, f7_2, f7_3, f7_4⟩ := hQ7
  have g_b7_0 : n0 ≤ b7_0 := Nat.le_trans ((O4.1 ▸ O4.2.1) : n0 ≤ h4.size) ge_b7_0
  have sz_b7_0 : h0.size ≤ b7_0 := Nat.le_trans KK4.1 ge_b7_0
  have g_b7_1 : n0 ≤ b7_1 := Nat.le_trans ((O4.1 ▸ O4.2.1) : n0 ≤ h4.size) ge_b7_1
  have sz_b7_1 : h0.size ≤ b7_1 := Nat.le_trans KK4.1 ge_b7_1
  have KK7 : Keep h0 T7.heap [r1] := KK4.trans K7 all0
  have O7 := O4.keep K7 all0
  have N7 := Fr.app N4 N7q
  have fc8 := ((P4.other W4 (Or.inr (slot_ne (Or.inr (w110 hw)) (Or.inr (w81 hw)) (by decide) (t := (.object sN3)) (t' := (.object sN12)) (by decide) (by decide)))).keep K7 nin0)
  obtain ⟨T9, h9, X9, e9, W9, st9⟩ := putF X7 hx hZ hown (host := "") (Or.inl (w109 hw)) Via.refl rfl fc8 ((P2.wr W4).keep K7) (Or.inr ⟨(w110 hw), rfl, hnm⟩) (w65 hw) (ty := (.object sN3)) (by decide) rfl rfl (g := (mkF m 20 #[.val (.ref r1), .val (.ref w_BOOLEAN), .val (.ref r2), .unset, .unset] [(.ref b7_0), (.ref r1)])) rfl rfl (hb hby d11_20)
  have Fw9 := fc8.same W9
  have KK9 : Keep h0 h9 [r1] := KK7.wr W9 (Or.inl (List.mem_of_getElem? (i := 0) rfl))
  have O9 := O7.wr W9 P7
  have N9 := Fr.snoc X9 N7 P7
  obtain ⟨T10, X10, e10, st10⟩ := getF X9 hx hZ hown (host := "") (Or.inl (w109 hw)) Via.refl e9 Fw9 (g := (mkF m 25 #[.val (.ref r1), .val (.ref w_BOOLEAN), .val (.ref r2), .unset, .unset] [(.ref r1), (.ref r1)])) rfl rfl (hb hby d11_25)
  have nz11 : b7_0 ≠ r1 := (ne_exa f7_2 ((P2.wr W4).keep K7) (by decide))
  have nz12 : b7_1 ≠ r1 := (ne_exa f7_0 ((P2.wr W4).keep K7) (by decide))
  obtain ⟨_, T13, L13, X13, hQ13, st13⟩ := own_cF X10 hx hZ hown (w111 hw) (w112 hw) (w113 hw) (w114 hw) (w115 hw) (w116 hw) (w117 hw) (w118 hw) (w119 hw) (w120 hw) (f7_2.wr W9) (rm17_1 l Z a0 hw b7_0 b7_1 w_x0 w_x1 w_x2 kc7_0 h9 n0 O9 (f7_3.other W9 (Or.inl nz11)) ov7_1 (f7_1.other W9 nz12)) e10 (hb hby d11_28) hml pd_15 [] [(.ref r1)] (g := (mkF m 28 #[.val (.ref r1), .val (.ref w_BOOLEAN), .val (.ref r2), .unset, .unset] [(.ref b7_0), (.ref r1)]))
  obtain ⟨rfl, N13q, e13⟩ := hQ13
  have N13 := Fr.app N9 N13q
  have fc14 := (((P5.other W4 (Or.inr (slot_ne (Or.inr (w124 hw)) (Or.inr (w81 hw)) (by decide) (t := .int) (t' := (.object sN12)) (by decide) (by decide)))).keep K7 nin0).other W9 (Or.inr (slot_ne (Or.inr (w124 hw)) (Or.inr (w110 hw)) (by decide) (t := .int) (t' := (.object sN3)) (by decide) (by decide))))
  obtain ⟨T15, h15, X15, e15, W15, st15⟩ := putF X13 hx hZ hown (host := "") (Or.inl (w123 hw)) Via.refl e13 fc14 (((P2.wr W4).keep K7).wr W9) (Or.inr ⟨(w124 hw), rfl, hnm⟩) (w65 hw) (ty := .int) (by decide) rfl rfl (g := (mkF m 33 #[.val (.ref r1), .val (.ref w_BOOLEAN), .val (.ref r2), .unset, .unset] [(.int (3 : Int32)), (.ref r1)])) rfl rfl (hb hby d11_33)
  have Fw15 := fc14.same W15
  have KK15 : Keep h0 h15 [r1] := KK9.wr W15 (Or.inl (List.mem_of_getElem? (i := 0) rfl))
  have O15 := O9.wr W15 P7
  have N15 := Fr.snoc X15 N13 P7
  have fc16 := ((((P6.other W4 (Or.inr (slot_ne (Or.inr (w126 hw)) (Or.inr (w81 hw)) (by decide) (t := (.object sN3)) (t' := (.object sN12)) (by decide) (by decide)))).keep K7 nin0).other W9 (Or.inr (slot_ne (Or.inr (w126 hw)) (Or.inr (w110 hw)) (by decide) (t := (.object sN3)) (t' := (.object sN3)) (by decide) (by decide)))).other W15 (Or.inr (slot_ne (Or.inr (w126 hw)) (Or.inr (w124 hw)) (by decide) (t := (.object sN3)) (t' := .int) (by decide) (by decide))))
  obtain ⟨T17, h17, X17, e17, W17, st17⟩ := putF X15 hx hZ hown (host := "") (Or.inl (w125 hw)) Via.refl e15 fc16 ((((P2.wr W4).keep K7).wr W9).wr W15) (Or.inr ⟨(w126 hw), rfl, hnm⟩) (w65 hw) (ty := (.object sN3)) (by decide) rfl rfl (g := (mkF m 38 #[.val (.ref r1), .val (.ref w_BOOLEAN), .val (.ref r2), .unset, .unset] [.null, (.ref r1)])) rfl rfl (hb hby d11_38)
  have Fw17 := fc16.same W17
  have KK17 : Keep h0 h17 [r1] := KK15.wr W17 (Or.inl (List.mem_of_getElem? (i := 0) rfl))
  have O17 := O15.wr W17 P7
  have N17 := Fr.snoc X17 N15 P7
  have fc18 := (((((P2.wr W4).keep K7).wr W9).wr W15).wr W17)
  have fc19 := ((Fw9.other W15 (Or.inr (slot_ne (Or.inr (w110 hw)) (Or.inr (w124 hw)) (by decide) (t := (.object sN3)) (t' := .int) (by decide) (by decide)))).other W17 (Or.inr (slot_ne (Or.inr (w110 hw)) (Or.inr (w126 hw)) (by decide) (t := (.object sN3)) (t' := (.object sN3)) (by decide) (by decide))))
  obtain ⟨T20, X20, e20, st20⟩ := getF X17 hx hZ hown (host := "") (Or.inl (w109 hw)) Via.refl e17 fc19 (g := (mkF m 42 #[.val (.ref r1), .val (.ref w_BOOLEAN), .val (.ref r2), .unset, .unset] [(.ref r1)])) rfl rfl (hb hby d11_42)
  have fc21 := (((f7_3.other W9 (Or.inl nz11)).other W15 (Or.inl nz11)).other W17 (Or.inl nz11))
  have fc22 := (((f7_1.other W9 nz12).other W15 nz12).other W17 nz12)
  obtain ⟨_, T23, L23, X23, hQ23, st23⟩ := own_cF X20 hx hZ hown (w127 hw) (w128 hw) (w129 hw) (w130 hw) (w131 hw) (w132 hw) (w133 hw) (w118 hw) (w134 hw) (w135 hw) (((f7_2.wr W9).wr W15).wr W17) (rm18_3 l Z a0 hw b7_0 b7_1 w_x0 w_x1 w_x2 kc7_0 h17 n0 O17 (((f7_2.wr W9).wr W15).wr W17) fc21 ov7_1 fc22) e20 (hb hby d11_45) hml pd_21 [] [] (g := (mkF m 45 #[.val (.ref r1), .val (.ref w_BOOLEAN), .val (.ref r2), .unset, .unset] [(.ref b7_0)]))
  obtain ⟨b23_0, rfl, N23q, K23, ge_b23_0, f23_0, f23_1, f23_2, f23_3, f23_4⟩ := hQ23
  have g_b23_0 : n0 ≤ b23_0 := Nat.le_trans ((O17.1 ▸ O17.2.1) : n0 ≤ h17.size) ge_b23_0
  have sz_b23_0 : h0.size ≤ b23_0 := Nat.le_trans KK17.1 ge_b23_0
  have KK23 : Keep h0 T23.heap [r1] := KK17.trans K23 all0
  have O23 := O17.keep K23 all0
  have N23 := Fr.app N17 N23q
  obtain ⟨_, T24, L24, X24, hQ24, st24⟩ := own_cF X23 hx hZ hown (w156 hw) (w157 hw) (w158 hw) (w159 hw) (w160 hw) (w161 hw) (w162 hw) (w163 hw) (w138 hw) (w164 hw) f23_0 (rm20_6 l Z a0 hw b23_0 T23.heap n0 O23 f23_3 f23_2) rfl (hb hby d11_52) hml pd_5 [] [] (g := (mkF m 52 #[.val (.ref r1), .val (.ref w_BOOLEAN), .val (.ref r2), .val (.ref b23_0), .unset] [(.ref b23_0)]))
  obtain ⟨rfl, N24q, e24⟩ := hQ24
  have N24 := Fr.app N23 N24q
  have fc25 := ((((f7_2.wr W9).wr W15).wr W17).keep K23)
  obtain ⟨cq26, kq26, q26a, q26b, q26c⟩ := isOf hZ e24 f23_0
  obtain ⟨_, _, ⟨T26, L26, k26, n26⟩, -, X26, ⟨Lc26, hQ26, l26, y26, z26⟩, st26⟩ := X24.interfaceBack hx (xi := yN6) (y := yN0) hown (mvT hZ (w223 hw)) (mvT hZ (w224 hw)) (mvT hZ (w225 hw)) (mvT hZ (w226 hw)) (mvT hZ (w227 hw)) (mvT hZ (w228 hw)) (mvT hZ (w229 hw)) (mvT hZ (w163 hw)) (by decide) (backOfWith (W := 0) (rm30_3 l Z a0 hw b23_0 b7_0 b7_1 w_x0 w_x1 w_x2 kc7_0 T23.heap n0 O23 f23_3 f23_1 fc25 (fc21.keep K23 nin0) ov7_1 (fc22.keep K23 nin0) f23_0 f23_2 f23_4 g_b23_0) hZ (w230 hw) (w138 hw) (by decide) (by decide)) q26a q26b q26c (g := (mkF m 61 #[.val (.ref r1), .val (.ref w_BOOLEAN), .val (.ref r2), .val (.ref b23_0), .unset] [(.ref b23_0)])) rfl (by rw [hml]; rfl) (Steps.refl _) (argsL := []) (rest := []) (lenOf pd_49 rfl) rfl (by show 2 * 0 + _ ≤ _; exact Nat.le_of_eq rfl) (hb hby d11_61) (fun _ _ => ⟨rfl, e24, (by decide : 4 + 0 ≤ _), (by decide : 12 + 0 ≤ _)⟩)
  dsimp only [Pt.U, Pt.locs, Pt.cells, Pt.slots] at X26 l26 y26 z26 st26 hQ26
  subst l26 y26 z26
  obtain ⟨rfl, N26q, K26, f26_0, f26_1, f26_2, f26_3⟩ := hQ26
  have KK26 : Keep h0 T26.heap [r1] := KK23.trans K26 (allS (Or.inr sz_b23_0) all0)
  have O26 := O23.keep K26 (allS g_b23_0 all0)
  have N26 := Fr.app N24 N26q
  obtain ⟨T27, X27, e27, st27⟩ := castY X26 hx hZ hown (w239 hw) rfl (Ins.self (P16.ext O26.2)) (g := (mkF m 66 #[.val (.ref r1), .val (.ref w_BOOLEAN), .val (.ref r2), .val (.ref b23_0), .unset] [(.ref w_x0)])) rfl rfl (hb hby d11_66)
  obtain ⟨_, T28, L28, X28, hQ28, st28⟩ := own_cV X27 hx hZ hown (notFace_of_selects (args := #[]) (mvT hZ (w244 hw))) (w241 hw) (w242 hw) (w244 hw) (w243 hw) (w31 hw) (w245 hw) (P16.ext O26.2) (rm32_0 l Z a0 hw w_x0 w_BOOLEAN T26.heap n0 O26 P17) e27 (hb hby d11_73) hml pd_52 [] [] (g := (mkF m 73 #[.val (.ref r1), .val (.ref w_BOOLEAN), .val (.ref r2), .val (.ref b23_0), .val (.ref w_x0)] [(.ref w_x0)]))
  obtain ⟨rfl, N28q, e28⟩ := hQ28
  have N28 := Fr.app N26 N28q
  obtain ⟨_, T29, L29, X29, hQ29, st29⟩ := own_cF X28 hx hZ hown (w156 hw) (w157 hw) (w158 hw) (w159 hw) (w160 hw) (w161 hw) (w162 hw) (w163 hw) (w138 hw) (w164 hw) (f23_0.keep K26) (rm20_7 l Z a0 hw b23_0 T26.heap n0 O26 f26_0 f26_2) e28 (hb hby d11_52) hml pd_5 [] [] (g := (mkF m 52 #[.val (.ref r1), .val (.ref w_BOOLEAN), .val (.ref r2), .val (.ref b23_0), .val (.ref w_x0)] [(.ref b23_0)]))
  obtain ⟨rfl, N29q, e29⟩ := hQ29
  have N29 := Fr.app N28 N29q
  have nz30 : b7_0 ≠ b23_0 := (Nat.ne_of_lt (Nat.lt_of_lt_of_le (((f7_2.wr W9).wr W15).wr W17).lt ge_b23_0))
  have fc31 := ((fc21.keep K23 nin0).keep K26 (ninS nz30 nin0))
  have nz32 : b7_1 ≠ b23_0 := (Nat.ne_of_lt (Nat.lt_of_lt_of_le (((f7_0.wr W9).wr W15).wr W17).lt ge_b23_0))
  have fc33 := ((fc22.keep K23 nin0).keep K26 (ninS nz32 nin0))
  obtain ⟨cq34, kq34, q34a, q34b, q34c⟩ := isOf hZ e29 (f23_0.keep K26)
  obtain ⟨_, _, ⟨T34, L34, k34, n34⟩, -, X34, ⟨Lc34, hQ34, l34, y34, z34⟩, st34⟩ := X29.interfaceBack hx (xi := yN6) (y := yN0) hown (mvT hZ (w223 hw)) (mvT hZ (w224 hw)) (mvT hZ (w225 hw)) (mvT hZ (w226 hw)) (mvT hZ (w227 hw)) (mvT hZ (w228 hw)) (mvT hZ (w229 hw)) (mvT hZ (w163 hw)) (by decide) (backOfWith (W := 0) (rm30_4 l Z a0 hw b23_0 b7_0 b7_1 w_x0 w_x1 w_x2 kc7_0 T26.heap n0 O26 f26_0 f26_1 (fc25.keep K26) fc31 ov7_1 fc33 (f23_0.keep K26) f26_2 f26_3 g_b23_0) hZ (w230 hw) (w138 hw) (by decide) (by decide)) q34a q34b q34c (g := (mkF m 61 #[.val (.ref r1), .val (.ref w_BOOLEAN), .val (.ref r2), .val (.ref b23_0), .val (.ref w_x0)] [(.ref b23_0)])) rfl (by rw [hml]; rfl) (Steps.refl _) (argsL := []) (rest := []) (lenOf pd_49 rfl) rfl (by show 2 * 0 + _ ≤ _; exact Nat.le_of_eq rfl) (hb hby d11_61) (fun _ _ => ⟨rfl, e29, (by decide : 4 + 0 ≤ _), (by decide : 12 + 0 ≤ _)⟩)
  dsimp only [Pt.U, Pt.locs, Pt.cells, Pt.slots] at X34 l34 y34 z34 st34 hQ34
  subst l34 y34 z34
  obtain ⟨rfl, N34q, K34, f34_0, f34_1, f34_2, f34_3⟩ := hQ34
  have KK34 : Keep h0 T34.heap [r1] := KK26.trans K34 (allS (Or.inr sz_b23_0) all0)
  have O34 := O26.keep K34 (allS g_b23_0 all0)
  have N34 := Fr.app N29 N34q
  obtain ⟨T35, X35, e35, st35⟩ := castY X34 hx hZ hown (w239 hw) rfl (Ins.self (P15.ext O34.2)) (g := (mkF m 66 #[.val (.ref r1), .val (.ref w_BOOLEAN), .val (.ref r2), .val (.ref b23_0), .val (.ref w_x0)] [(.ref w_x1)])) rfl rfl (hb hby d11_66)
  obtain ⟨_, T36, L36, X36, hQ36, st36⟩ := own_cV X35 hx hZ hown (notFace_of_selects (args := #[]) (mvT hZ (w244 hw))) (w241 hw) (w242 hw) (w244 hw) (w243 hw) (w31 hw) (w245 hw) (P15.ext O34.2) (rm32_1 l Z a0 hw w_x1 w_BOOLEAN T34.heap n0 O34 P18) e35 (hb hby d11_73) hml pd_52 [] [] (g := (mkF m 73 #[.val (.ref r1), .val (.ref w_BOOLEAN), .val (.ref r2), .val (.ref b23_0), .val (.ref w_x1)] [(.ref w_x1)]))
  obtain ⟨rfl, N36q, e36⟩ := hQ36
  have N36 := Fr.app N34 N36q
  obtain ⟨_, T37, L37, X37, hQ37, st37⟩ := own_cF X36 hx hZ hown (w156 hw) (w157 hw) (w158 hw) (w159 hw) (w160 hw) (w161 hw) (w162 hw) (w163 hw) (w138 hw) (w164 hw) ((f23_0.keep K26).keep K34) (rm20_8 l Z a0 hw b23_0 T34.heap n0 O34 f34_0 f34_2) e36 (hb hby d11_52) hml pd_5 [] [] (g := (mkF m 52 #[.val (.ref r1), .val (.ref w_BOOLEAN), .val (.ref r2), .val (.ref b23_0), .val (.ref w_x1)] [(.ref b23_0)]))
  obtain ⟨rfl, N37q, e37⟩ := hQ37
  have N37 := Fr.app N36 N37q
  obtain ⟨cq38, kq38, q38a, q38b, q38c⟩ := isOf hZ e37 ((f23_0.keep K26).keep K34)
  obtain ⟨_, _, ⟨T38, L38, k38, n38⟩, -, X38, ⟨Lc38, hQ38, l38, y38, z38⟩, st38⟩ := X37.interfaceBack hx (xi := yN6) (y := yN0) hown (mvT hZ (w223 hw)) (mvT hZ (w224 hw)) (mvT hZ (w225 hw)) (mvT hZ (w226 hw)) (mvT hZ (w227 hw)) (mvT hZ (w228 hw)) (mvT hZ (w229 hw)) (mvT hZ (w163 hw)) (by decide) (backOfWith (W := 0) (rm30_5 l Z a0 hw b23_0 b7_0 b7_1 w_x0 w_x1 w_x2 kc7_0 T34.heap n0 O34 f34_0 f34_1 ((fc25.keep K26).keep K34) (fc31.keep K34 (ninS nz30 nin0)) ov7_1 (fc33.keep K34 (ninS nz32 nin0)) ((f23_0.keep K26).keep K34) f34_2 f34_3 g_b23_0) hZ (w230 hw) (w138 hw) (by decide) (by decide)) q38a q38b q38c (g := (mkF m 61 #[.val (.ref r1), .val (.ref w_BOOLEAN), .val (.ref r2), .val (.ref b23_0), .val (.ref w_x1)] [(.ref b23_0)])) rfl (by rw [hml]; rfl) (Steps.refl _) (argsL := []) (rest := []) (lenOf pd_49 rfl) rfl (by show 2 * 0 + _ ≤ _; exact Nat.le_of_eq rfl) (hb hby d11_61) (fun _ _ => ⟨rfl, e37, (by decide : 4 + 0 ≤ _), (by decide : 12 + 0 ≤ _)⟩)
  dsimp only [Pt.U, Pt.locs, Pt.cells, Pt.slots] at X38 l38 y38 z38 st38 hQ38
  subst l38 y38 z38
  obtain ⟨rfl, N38q, K38, f38_0, f38_1, f38_2, f38_3⟩ := hQ38
  have KK38 : Keep h0 T38.heap [r1] := KK34.trans K38 (allS (Or.inr sz_b23_0) all0)
  have O38 := O34.keep K38 (allS g_b23_0 all0)
  have N38 := Fr.app N37 N38q
  obtain ⟨T39, X39, e39, st39⟩ := castY X38 hx hZ hown (w239 hw) rfl (Ins.self (P14.ext O38.2)) (g := (mkF m 66 #[.val (.ref r1), .val (.ref w_BOOLEAN), .val (.ref r2), .val (.ref b23_0), .val (.ref w_x1)] [(.ref w_x2)])) rfl rfl (hb hby d11_66)
  obtain ⟨_, T40, L40, X40, hQ40, st40⟩ := own_cV X39 hx hZ hown (notFace_of_selects (args := #[]) (mvT hZ (w244 hw))) (w241 hw) (w242 hw) (w244 hw) (w243 hw) (w31 hw) (w245 hw) (P14.ext O38.2) (rm32_2 l Z a0 hw w_x2 w_BOOLEAN T38.heap n0 O38 P19) e39 (hb hby d11_73) hml pd_52 [] [] (g := (mkF m 73 #[.val (.ref r1), .val (.ref w_BOOLEAN), .val (.ref r2), .val (.ref b23_0), .val (.ref w_x2)] [(.ref w_x2)]))
  obtain ⟨rfl, N40q, e40⟩ := hQ40
  have N40 := Fr.app N38 N40q
  obtain ⟨_, T41, L41, X41, hQ41, st41⟩ := own_cF X40 hx hZ hown (w156 hw) (w157 hw) (w158 hw) (w159 hw) (w160 hw) (w161 hw) (w162 hw) (w163 hw) (w138 hw) (w164 hw) (((f23_0.keep K26).keep K34).keep K38) (rm20_9 l Z a0 hw b23_0 T38.heap n0 O38 f38_0 f38_2) e40 (hb hby d11_52) hml pd_5 [] [] (g := (mkF m 52 #[.val (.ref r1), .val (.ref w_BOOLEAN), .val (.ref r2), .val (.ref b23_0), .val (.ref w_x2)] [(.ref b23_0)]))
  obtain ⟨rfl, N41q, e41⟩ := hQ41
  have N41 := Fr.app N40 N41q
  have fc42 := ((((fc18.keep K23).keep K26).keep K34).keep K38)
  have nz43 : r1 ≠ b23_0 := (ne_exa (fc18.keep K23) f23_0 (by decide))
  have fc44 := ((((((((Fw4.keep K7 nin0).other W9 (Or.inr (slot_ne (Or.inr (w81 hw)) (Or.inr (w110 hw)) (by decide) (t := (.object sN12)) (t' := (.object sN3)) (by decide) (by decide)))).other W15 (Or.inr (slot_ne (Or.inr (w81 hw)) (Or.inr (w124 hw)) (by decide) (t := (.object sN12)) (t' := .int) (by decide) (by decide)))).other W17 (Or.inr (slot_ne (Or.inr (w81 hw)) (Or.inr (w126 hw)) (by decide) (t := (.object sN12)) (t' := (.object sN3)) (by decide) (by decide)))).keep K23 nin0).keep K26 (ninS nz43 nin0)).keep K34 (ninS nz43 nin0)).keep K38 (ninS nz43 nin0))
  have fc45 := (((((Fw15.other W17 (Or.inr (slot_ne (Or.inr (w124 hw)) (Or.inr (w126 hw)) (by decide) (t := .int) (t' := (.object sN3)) (by decide) (by decide)))).keep K23 nin0).keep K26 (ninS nz43 nin0)).keep K34 (ninS nz43 nin0)).keep K38 (ninS nz43 nin0))
  have fc46 := ((((Fw17.keep K23 nin0).keep K26 (ninS nz43 nin0)).keep K34 (ninS nz43 nin0)).keep K38 (ninS nz43 nin0))
  refine ⟨none, _, _, _, _, X41, (fun _ => rfl), ?_, by decide, by decide, fun fs hr => castTop (ef_11_RRR m r1 w_BOOLEAN r2) ?_⟩
  · show own_QB Z r1 w_BOOLEAN (3 : Int32) n0 h0 _ T41.heap _
    rw [e41]
    exact ⟨rfl, N41, KK38, fc44, fc45, fc46⟩
  · show Steps p.tables e below (s₁.setTop (mkF m 0 #[.val (.ref r1), .val (.ref w_BOOLEAN), .val (.ref r2), .unset, .unset] [])) _
    refine XS.aloadN X0.here hx rfl (hb hby d11_0) rfl rfl ?_
    refine st1 _ ?_
    refine XS.aloadN X1.here hx rfl (hb hby d11_4) rfl rfl ?_
    refine XS.aloadN X1.here hx rfl (hb hby d11_5) rfl rfl ?_
    refine st2 _ ?_
    refine st3 _ ?_
    refine st4 _ ?_
    refine XS.aloadN X4.here hx rfl (hb hby d11_15) rfl rfl ?_
    show Steps p.tables e below (T4.setTop (mkF m 16 #[.val (.ref r1), .val (.ref w_BOOLEAN), .val (.ref r2), .unset, .unset] [(.ref r1)])) _
    refine XS.aloadN X4.here hx rfl (hb hby d11_16) rfl rfl ?_
    refine st7 _ ?_
    refine st9 _ ?_
    refine XS.aloadN X9.here hx rfl (hb hby d11_23) rfl rfl ?_
    refine XS.aloadN X9.here hx rfl (hb hby d11_24) rfl rfl ?_
    refine st10 _ ?_
    refine st13 _ ?_
    refine st15 _ ?_
    show Steps p.tables e below (T15.setTop (mkF m 36 #[.val (.ref r1), .val (.ref w_BOOLEAN), .val (.ref r2), .unset, .unset] [])) _
    refine XS.aloadN X15.here hx rfl (hb hby d11_36) rfl rfl ?_
    refine XS.aconstNull X15.here hx rfl (hb hby d11_37) ?_
    refine st17 _ ?_
    refine XS.aloadN X17.here hx rfl (hb hby d11_41) rfl rfl ?_
    refine st20 _ ?_
    refine st23 _ ?_
    refine XS.astoreN X23.here hx rfl (hb hby d11_50) rfl rfl (l' := #[.val (.ref r1), .val (.ref w_BOOLEAN), .val (.ref r2), .val (.ref b23_0), .unset]) rfl ?_
    refine XS.aloadN X23.here hx rfl (hb hby d11_51) rfl rfl ?_
    show Steps p.tables e below (T23.setTop (mkF m 52 #[.val (.ref r1), .val (.ref w_BOOLEAN), .val (.ref r2), .val (.ref b23_0), .unset] [(.ref b23_0)])) _
    refine st24 _ ?_
    refine XS.ifNo X24.here hx rfl (hb hby d11_57) rfl (by decide) ?_
    refine XS.aloadN X24.here hx rfl (hb hby d11_60) rfl rfl ?_
    refine st26.trans ?_
    refine st27 _ ?_
    refine XS.astore X27.here hx rfl (hb hby d11_69) rfl rfl (l' := #[.val (.ref r1), .val (.ref w_BOOLEAN), .val (.ref r2), .val (.ref b23_0), .val (.ref w_x0)]) rfl ?_
    refine XS.aload X27.here hx rfl (hb hby d11_71) rfl rfl ?_
    refine st28 _ ?_
    show Steps p.tables e below (T28.setTop (mkF m 76 #[.val (.ref r1), .val (.ref w_BOOLEAN), .val (.ref r2), .val (.ref b23_0), .val (.ref w_x0)] [(.ref w_BOOLEAN)])) _
    refine XS.aloadN X28.here hx rfl (hb hby d11_76) rfl rfl ?_
    refine Jvm.RoadKit.acmp (g := (mkF m 77 #[.val (.ref r1), .val (.ref w_BOOLEAN), .val (.ref r2), .val (.ref b23_0), .val (.ref w_x0)] [(.ref w_BOOLEAN), (.ref w_BOOLEAN)])) X28 hx rfl rfl rfl (pc0 := 77) (pc' := 102) (same := true) rfl (hb hby d11_77) rfl (decide_eq_true rfl) (by decide) (by decide) ?_
    refine XS.goto X28.here hx rfl (pc0 := 102) (pc' := 51) rfl (hb hby d11_102) (by decide) (by decide) ?_
    refine XS.aloadN X28.here hx rfl (hb hby d11_51) rfl rfl ?_
    refine st29 _ ?_
    refine XS.ifNo X29.here hx rfl (hb hby d11_57) rfl (by decide) ?_
    refine XS.aloadN X29.here hx rfl (hb hby d11_60) rfl rfl ?_
    refine st34.trans ?_
    show Steps p.tables e below (T34.setTop (mkF m 66 #[.val (.ref r1), .val (.ref w_BOOLEAN), .val (.ref r2), .val (.ref b23_0), .val (.ref w_x0)] [(.ref w_x1)])) _
    refine st35 _ ?_
    refine XS.astore X35.here hx rfl (hb hby d11_69) rfl rfl (l' := #[.val (.ref r1), .val (.ref w_BOOLEAN), .val (.ref r2), .val (.ref b23_0), .val (.ref w_x1)]) rfl ?_
    refine XS.aload X35.here hx rfl (hb hby d11_71) rfl rfl ?_
    refine st36 _ ?_
    refine XS.aloadN X36.here hx rfl (hb hby d11_76) rfl rfl ?_
    refine Jvm.RoadKit.acmp (g := (mkF m 77 #[.val (.ref r1), .val (.ref w_BOOLEAN), .val (.ref r2), .val (.ref b23_0), .val (.ref w_x1)] [(.ref w_BOOLEAN), (.ref w_BOOLEAN)])) X36 hx rfl rfl rfl (pc0 := 77) (pc' := 102) (same := true) rfl (hb hby d11_77) rfl (decide_eq_true rfl) (by decide) (by decide) ?_
    refine XS.goto X36.here hx rfl (pc0 := 102) (pc' := 51) rfl (hb hby d11_102) (by decide) (by decide) ?_
    refine XS.aloadN X36.here hx rfl (hb hby d11_51) rfl rfl ?_
    show Steps p.tables e below (T36.setTop (mkF m 52 #[.val (.ref r1), .val (.ref w_BOOLEAN), .val (.ref r2), .val (.ref b23_0), .val (.ref w_x1)] [(.ref b23_0)])) _
    refine st37 _ ?_
    refine XS.ifNo X37.here hx rfl (hb hby d11_57) rfl (by decide) ?_
    refine XS.aloadN X37.here hx rfl (hb hby d11_60) rfl rfl ?_
    refine st38.trans ?_
    refine st39 _ ?_
    refine XS.astore X39.here hx rfl (hb hby d11_69) rfl rfl (l' := #[.val (.ref r1), .val (.ref w_BOOLEAN), .val (.ref r2), .val (.ref b23_0), .val (.ref w_x2)]) rfl ?_
    refine XS.aload X39.here hx rfl (hb hby d11_71) rfl rfl ?_
    refine st40 _ ?_
    show Steps p.tables e below (T40.setTop (mkF m 76 #[.val (.ref r1), .val (.ref w_BOOLEAN), .val (.ref r2), .val (.ref b23_0), .val (.ref w_x2)] [(.ref w_BOOLEAN)])) _
    refine XS.aloadN X40.here hx rfl (hb hby d11_76) rfl rfl ?_
    refine Jvm.RoadKit.acmp (g := (mkF m 77 #[.val (.ref r1), .val (.ref w_BOOLEAN), .val (.ref r2), .val (.ref b23_0), .val (.ref w_x2)] [(.ref w_BOOLEAN), (.ref w_BOOLEAN)])) X40 hx rfl rfl rfl (pc0 := 77) (pc' := 102) (same := true) rfl (hb hby d11_77) rfl (decide_eq_true rfl) (by decide) (by decide) ?_
    refine XS.goto X40.here hx rfl (pc0 := 102) (pc' := 51) rfl (hb hby d11_102) (by decide) (by decide) ?_
    refine XS.aloadN X40.here hx rfl (hb hby d11_51) rfl rfl ?_
    refine st41 _ ?_
    refine XS.ifYes X41.here hx rfl (pc0 := 57) (pc' := 105) rfl (hb hby d11_57) rfl (by decide) (by decide) (by decide) ?_
    exact X41.returnOut hx hret (hb hby d11_105) hr
theorem own_B (l : Launch) (Z : State) (a0 : Array Value) (hw : own_HW a0 Z) (r1 r2 b : Addr) (n : Int32) (w_BOOLEAN : Addr) (w_LIST : Addr) (w_LELS : Addr) (w_kLEL : ClassId) (w_MIR : Addr) (w_NIL : Addr) (h0 : Heap) (n0 : Nat) (O0 : Old Z n0 h0) (G0 : Exa Z Z.heap w_BOOLEAN sN12) (G1 : Sta Z Z.heap sN14 "EMPTY_LIST" sN34 (.ref w_LIST)) (G2 : Exa Z Z.heap w_LIST sN7) (G3 : Fld Z Z.heap w_LIST sN7 "elements" sN4 (.ref w_LELS)) (G4 : Arv Z Z.heap w_LELS w_kLEL (.object sN1) (0 : Int32) [] .null) (G5 : Mir Z sN4 w_MIR) (G6 : Sta Z Z.heap sN14 "EMPTY" sN11 (.ref w_NIL)) (G7 : Exa Z Z.heap w_NIL sN1) (E1 : Exa Z h0 r1 sN2) (F_dataType : Fld Z h0 r1 sN2 "dataType" sN15 .null) (F_values : Fld Z h0 r1 sN2 "values" sN10 .null) (F_size : Fld Z h0 r1 sN2 "size" "I" (.int (0 : Int32))) (F_parts : Fld Z h0 r1 sN2 "parts" sN10 .null) (z1 : n0 ≤ r1) (LS : own_LS Z n0 w_DEF w_BOOLEAN h0 r2 b n) :
    own_Ct l Z yN10 prog_167_method_1_code 5 none ({ frames := 9, cells := 4, slots := 12, locals := 126 } : Room) #[(.ref r1), (.ref w_BOOLEAN), (.ref r2)] h0 (own_QB Z r1 w_BOOLEAN n n0 h0) := by
  obtain ⟨-, E, M, S, D, -, ⟨rfl, eb⟩ | ⟨-, Eb, k, -, ⟨rfl, e0, q0, V⟩ | ⟨rfl, e0, e1, q0, q1, V⟩ | ⟨rfl, e0, e1, e2, q0, q1, q2, V⟩⟩⟩ := LS
  · rw [eb] at D; exact rm11_0 l Z a0 hw r1 w_BOOLEAN r2 w_LIST w_LELS w_kLEL h0 n0 O0 G0 E1 F_dataType F_values F_size F_parts z1 E S G1 G2 G3 G4
  · exact rm11_1 l Z a0 hw r1 w_BOOLEAN r2 b w_MIR k e0 w_NIL h0 n0 O0 G0 E1 F_dataType F_values F_size F_parts z1 E S D Eb G5 V q0.1 G6 q0.2
  · exact rm11_2 l Z a0 hw r1 w_BOOLEAN r2 b w_MIR k e0 e1 w_NIL h0 n0 O0 G0 E1 F_dataType F_values F_size F_parts z1 E S D Eb G5 V q1.1 q0.1 G6 G7 q0.2 q1.2
  · exact rm11_3 l Z a0 hw r1 w_BOOLEAN r2 b w_MIR k e0 e1 e2 h0 n0 O0 G0 E1 F_dataType F_values F_size F_parts z1 E S D Eb G5 V q2.1 q1.1 q0.1 q0.2 q1.2 q2.2
theorem rm34_0 (l : Launch) (Z : State) (a0 : Array Value) (hw : own_HW a0 Z) (r1 : Addr) (h0 : Heap) (n0 : Nat) (O0 : Old Z n0 h0) (P1 : Fld Z h0 r1 sN0 "size" "I" (.int (2 : Int32))) :
    own_Ct l Z yN24 jdk_38_method_8_code 1 (some .int) ({ frames := 0, cells := 0, slots := 0, locals := 0 } : Room) #[(.ref r1)] h0 (own_QP (some (.int (2 : Int32))) n0 h0) := by
  refine own_enter (own := sN0) rfl (plainFor_of_name pn_3) ?_
  intro p e s m below meth c s₁ X0 hx hby hml hown hnm hret hZ e0
  have N0 := Fr.nil n0
  obtain ⟨T1, X1, e1, st1⟩ := getF X0 hx hZ hown (host := "") (Or.inl (w40 hw)) Via.refl e0 P1 (g := (mkF m 1 #[.val (.ref r1)] [(.ref r1)])) rfl rfl (hb hby d34_1)
  refine ⟨(some (.int (2 : Int32))), _, _, _, _, X1, (fun h => nomatch h), ?_, by decide, by decide, fun fs hr => castTop (ef_34_R m r1) ?_⟩
  · show own_QP (some (.int (2 : Int32))) n0 h0 _ T1.heap _
    rw [e1]
    exact ⟨rfl, N0, rfl⟩
  · show Steps p.tables e below (s₁.setTop (mkF m 0 #[.val (.ref r1)] [])) _
    refine XS.aloadN X0.here hx rfl (hb hby d34_0) rfl rfl ?_
    refine st1 _ ?_
    exact retI X1 hx hret (hb hby d34_4) hr
def Q_rm2_0 (Z : State) (r1 : Addr) (n0 : Nat) (h0 : Heap) (v : Option Value) (h : Heap) (L : List Loc) : Prop := v = none ∧ Fr n0 L ∧ Keep h0 h [r1] ∧ Fld Z h r1 sN13 "modCount" "I" (.int (0 : Int32)) ∧ Fld Z h r1 sN0 "elementData" sN4 .null ∧ Fld Z h r1 sN0 "size" "I" (.int (0 : Int32))
theorem rm2_0 (l : Launch) (Z : State) (a0 : Array Value) (hw : own_HW a0 Z) (r1 : Addr) (h0 : Heap) (n0 : Nat) (O0 : Old Z n0 h0) (P1 : Exa Z h0 r1 sN0) (P2 : Fld Z h0 r1 sN13 "modCount" "I" (.int (0 : Int32))) (P3 : Fld Z h0 r1 sN0 "elementData" sN4 .null) (P4 : Fld Z h0 r1 sN0 "size" "I" (.int (0 : Int32))) (P5 : n0 ≤ r1) :
    own_Ct l Z yN45 jdk_39_method_1_code 1 none ({ frames := 2, cells := 0, slots := 0, locals := 24 } : Room) #[(.ref r1)] h0 (Q_rm2_0 Z r1 n0 h0) := by
  refine own_enter (own := sN13) rfl (plainFor_of_name pn_60) ?_
  intro p e s m below meth c s₁ X0 hx hby hml hown hnm hret hZ e0
  have N0 := Fr.nil n0
  obtain ⟨_, T1, L1, X1, hQ1, st1⟩ := own_cI X0 hx hZ hown rfl (w12 hw) (w13 hw) (w16 hw) (w17 hw) (rm3_0 l Z a0 hw r1 h0 n0 O0 ) e0 (hb hby d2_1) hml pd_36 [] [] (g := (mkF m 1 #[.val (.ref r1)] [(.ref r1)]))
  obtain ⟨rfl, N1q, e1⟩ := hQ1
  have N1 := Fr.app N0 N1q
  obtain ⟨T2, h2, X2, e2, W2, st2⟩ := putF X1 hx hZ hown (host := "") (Or.inl (w21 hw)) Via.refl e1 P2 P1 (Or.inl (w22 hw)) (w1 hw) (ty := .int) (by decide) rfl rfl (g := (mkF m 6 #[.val (.ref r1)] [(.int (0 : Int32)), (.ref r1)])) rfl rfl (hb hby d2_6)
  have Fw2 := P2.same W2
  have KK2 : Keep h0 h2 [r1] := (Keep.refl h0 [r1]).wr W2 (Or.inl (List.mem_of_getElem? (i := 0) rfl))
  have O2 := O0.wr W2 P5
  have N2 := Fr.snoc X2 N1 P5
  have fc3 := (P3.other W2 (Or.inr (slot_ne (Or.inl (w25 hw)) (Or.inl (w22 hw)) (by decide) (t := (.array (.object sN1))) (t' := .int) (by decide) (by decide))))
  have fc4 := (P4.other W2 (Or.inr (slot_ne (Or.inl (w41 hw)) (Or.inl (w22 hw)) (by decide) (t := .int) (t' := .int) (by decide) (by decide))))
  refine ⟨none, _, _, _, _, X2, (fun _ => rfl), ?_, by decide, by decide, fun fs hr => castTop (ef_2_R m r1) ?_⟩
  · show Q_rm2_0 Z r1 n0 h0 _ T2.heap _
    rw [e2]
    exact ⟨rfl, N2, KK2, Fw2, fc3, fc4⟩
  · show Steps p.tables e below (s₁.setTop (mkF m 0 #[.val (.ref r1)] [])) _
    refine XS.aloadN X0.here hx rfl (hb hby d2_0) rfl rfl ?_
    refine st1 _ ?_
    refine XS.aloadN X1.here hx rfl (hb hby d2_4) rfl rfl ?_
    refine XS.iconst X1.here hx rfl (hb hby d2_5) ?_
    refine st2 _ ?_
    exact X2.returnOut hx hret (hb hby d2_9) hr
def Q_rm35_0 (Z : State) (r1 : Addr) (n0 : Nat) (h0 : Heap) (v : Option Value) (h : Heap) (L : List Loc) : Prop := ∃ b2 : Addr, ∃ k2 : ClassId, v = none ∧ Fr n0 L ∧ Keep h0 h [r1] ∧ h0.size ≤ b2 ∧ Fld Z h r1 sN13 "modCount" "I" (.int (0 : Int32)) ∧ Fld Z h r1 sN0 "elementData" sN4 (.ref b2) ∧ Fld Z h r1 sN0 "size" "I" (.int (0 : Int32)) ∧ Exa Z h b2 sN4 ∧ Arv Z h b2 k2 (.object sN1) (2 : Int32) [.null, .null] .null ∧ Ovr Z k2 sN1
theorem rm35_0 (l : Launch) (Z : State) (a0 : Array Value) (hw : own_HW a0 Z) (r1 : Addr) (h0 : Heap) (n0 : Nat) (O0 : Old Z n0 h0) (P1 : Exa Z h0 r1 sN0) (P2 : Fld Z h0 r1 sN13 "modCount" "I" (.int (0 : Int32))) (P3 : Fld Z h0 r1 sN0 "elementData" sN4 .null) (P4 : Fld Z h0 r1 sN0 "size" "I" (.int (0 : Int32))) (P5 : n0 ≤ r1) :
    own_Ct l Z yN51 jdk_38_method_1_code 2 none ({ frames := 3, cells := 1, slots := 2, locals := 36 } : Room) #[(.ref r1), (.int (2 : Int32))] h0 (Q_rm35_0 Z r1 n0 h0) := by
  refine own_enter (own := sN0) rfl (plainFor_of_name pn_3) ?_
  intro p e s m below meth c s₁ X0 hx hby hml hown hnm hret hZ e0
  have N0 := Fr.nil n0
  obtain ⟨_, T1, L1, X1, hQ1, st1⟩ := own_cI X0 hx hZ hown rfl (w6 hw) (w7 hw) (w10 hw) (w11 hw) (rm2_0 l Z a0 hw r1 h0 n0 O0 P1 P2 P3 P4 P5) e0 (hb hby d35_1) hml pd_36 [] [] (g := (mkF m 1 #[.val (.ref r1), .val (.int (2 : Int32))] [(.ref r1)]))
  obtain ⟨rfl, N1q, K1, f1_0, f1_1, f1_2⟩ := hQ1
  have KK1 : Keep h0 T1.heap [r1] := (Keep.refl h0 [r1]).trans K1 (allS (Or.inl (List.mem_of_getElem? (i := 0) rfl)) all0)
  have O1 := O0.keep K1 (allS P5 all0)
  have N1 := Fr.app N0 N1q
  obtain ⟨T2, h2, k2, X2, e2, E2, A2, Ea2, Ov2, st2⟩ := newRE X1 hx hZ hown (w61 hw) (w62 hw) rfl (g := (mkF m 10 #[.val (.ref r1), .val (.int (2 : Int32))] [(.int (2 : Int32)), (.ref r1)])) rfl (hb hby d35_10) rfl (by decide) (cap := 2) (by decide) (by decide) (by decide) (by decide) (ad := sN4) (by decide)
  obtain ⟨b2, gq2⟩ : ∃ z, z = T1.heap.size := ⟨_, rfl⟩
  rw [← gq2] at A2 st2 Ea2
  have g_b2 : n0 ≤ b2 := Nat.le_trans ((O1.1 ▸ O1.2.1) : n0 ≤ T1.heap.size) (Nat.le_of_eq gq2.symm)
  have sz_b2 : h0.size ≤ b2 := Nat.le_trans KK1.1 (Nat.le_of_eq gq2.symm)
  have KK2 : Keep h0 h2 [r1] := KK1.ext E2
  have O2 := O1.ext E2
  have V2 : Arv Z h2 b2 k2 (.object sN1) (2 : Int32) [.null, .null] .null := (Arv.new A2 (by decide)).pad (pad_rep [] .null 2)
  obtain ⟨T3, h3, X3, e3, W3, st3⟩ := putF X2 hx hZ hown (host := "") (Or.inl (w24 hw)) Via.refl e2 (f1_1.ext E2) ((P1.keep K1).ext E2) (Or.inl (w25 hw)) (w1 hw) (ty := (.array (.object sN1))) (by decide) rfl rfl (g := (mkF m 13 #[.val (.ref r1), .val (.int (2 : Int32))] [(.ref b2), (.ref r1)])) rfl rfl (hb hby d35_13)
  have Fw3 := (f1_1.ext E2).same W3
  have KK3 : Keep h0 h3 [r1] := KK2.wr W3 (Or.inl (List.mem_of_getElem? (i := 0) rfl))
  have O3 := O2.wr W3 P5
  have N3 := Fr.snoc X3 N1 P5
  have fc4 := ((f1_0.ext E2).other W3 (Or.inr (slot_ne (Or.inl (w22 hw)) (Or.inl (w25 hw)) (by decide) (t := .int) (t' := (.array (.object sN1))) (by decide) (by decide))))
  have fc5 := ((f1_2.ext E2).other W3 (Or.inr (slot_ne (Or.inl (w41 hw)) (Or.inl (w25 hw)) (by decide) (t := .int) (t' := (.array (.object sN1))) (by decide) (by decide))))
  have nz6 : b2 ≠ r1 := (ne_exa Ea2 ((P1.keep K1).ext E2) (by decide))
  refine ⟨none, _, _, _, _, X3, (fun _ => rfl), ?_, by decide, by decide, fun fs hr => castTop (ef_35_RI m r1 (2 : Int32)) ?_⟩
  · show Q_rm35_0 Z r1 n0 h0 _ T3.heap _
    rw [e3]
    exact ⟨b2, k2, rfl, N3, KK3, sz_b2, fc4, Fw3, fc5, (Ea2.wr W3), (V2.other W3 nz6), Ov2⟩
  · show Steps p.tables e below (s₁.setTop (mkF m 0 #[.val (.ref r1), .val (.int (2 : Int32))] [])) _
    refine XS.aloadN X0.here hx rfl (hb hby d35_0) rfl rfl ?_
    refine st1 _ ?_
    refine XS.iloadN X1.here hx rfl (hb hby d35_4) rfl ?_
    refine XS.ifNo X1.here hx rfl (hb hby d35_5) rfl (by decide) ?_
    refine XS.aloadN X1.here hx rfl (hb hby d35_8) rfl rfl ?_
    refine XS.iloadN X1.here hx rfl (hb hby d35_9) rfl ?_
    refine st2 _ ?_
    refine st3 _ ?_
    show Steps p.tables e below (T3.setTop (mkF m 16 #[.val (.ref r1), .val (.int (2 : Int32))] [])) _
    refine XS.goto X3.here hx rfl (pc0 := 16) (pc' := 60) rfl (hb hby d35_16) (by decide) (by decide) ?_
    exact X3.returnOut hx hret (hb hby d35_60) hr
def Q_rm37_0 (Z : State) (r1 : Addr) (r2 : Addr) (n0 : Nat) (h0 : Heap) (v : Option Value) (h : Heap) (L : List Loc) : Prop := v = none ∧ Fr n0 L ∧ Keep h0 h [r1] ∧ Fld Z h r1 sN8 "this$0" sN32 (.ref r2) ∧ Fld Z h r1 sN8 "lastRet" "I" (.int (-1 : Int32)) ∧ Fld Z h r1 sN8 sN38 "I" (.int (2 : Int32)) ∧ Fld Z h r1 sN8 "cursor" "I" (.int (0 : Int32))
theorem rm37_0 (l : Launch) (Z : State) (a0 : Array Value) (hw : own_HW a0 Z) (r1 : Addr) (r2 : Addr) (h0 : Heap) (n0 : Nat) (O0 : Old Z n0 h0) (P1 : Exa Z h0 r1 sN8) (P2 : Fld Z h0 r1 sN8 "this$0" sN32 .null) (P3 : Fld Z h0 r1 sN8 "lastRet" "I" (.int (0 : Int32))) (P4 : Fld Z h0 r1 sN8 sN38 "I" (.int (0 : Int32))) (P5 : Fld Z h0 r1 sN8 "cursor" "I" (.int (0 : Int32))) (P6 : n0 ≤ r1) (P7 : Fld Z h0 r2 sN13 "modCount" "I" (.int (2 : Int32))) (P8 : Exa Z h0 r2 sN0) :
    own_Ct l Z yN52 jdk_49_method_1_code 2 none ({ frames := 1, cells := 0, slots := 0, locals := 12 } : Room) #[(.ref r1), (.ref r2)] h0 (Q_rm37_0 Z r1 r2 n0 h0) := by
  refine own_enter (own := sN8) rfl (plainFor_of_name pn_64) ?_
  intro p e s m below meth c s₁ X0 hx hby hml hown hnm hret hZ e0
  have N0 := Fr.nil n0
  obtain ⟨T1, h1, X1, e1, W1, st1⟩ := putF X0 hx hZ hown (host := "") (Or.inl (w274 hw)) Via.refl e0 P2 P1 (Or.inr ⟨(w275 hw), rfl, hnm⟩) (w268 hw) (ty := (.object sN0)) (by decide) rfl rfl (g := (mkF m 2 #[.val (.ref r1), .val (.ref r2)] [(.ref r2), (.ref r1)])) rfl rfl (hb hby d37_2)
  have Fw1 := P2.same W1
  have KK1 : Keep h0 h1 [r1] := (Keep.refl h0 [r1]).wr W1 (Or.inl (List.mem_of_getElem? (i := 0) rfl))
  have O1 := O0.wr W1 P6
  have N1 := Fr.snoc X1 N0 P6
  obtain ⟨T2, X2, e2, st2⟩ := initO X1 hx hZ hown (w276 hw) (w19 hw) (w20 hw) e1 (g := (mkF m 6 #[.val (.ref r1), .val (.ref r2)] [(.ref r1)])) rfl (by rw [hml]; rfl) rfl (hb hby d37_6) (by decide) (W := 0) (by show 2 * 0 + _ ≤ _; exact Nat.le_of_eq rfl) (by decide)
  have fc3 := (P3.other W1 (Or.inr (slot_ne (Or.inl (w278 hw)) (Or.inr (w275 hw)) (by decide) (t := .int) (t' := (.object sN0)) (by decide) (by decide))))
  obtain ⟨T4, h4, X4, e4, W4, st4⟩ := putF X2 hx hZ hown (host := "") (Or.inl (w277 hw)) Via.refl e2 fc3 (P1.wr W1) (Or.inl (w278 hw)) (w268 hw) (ty := .int) (by decide) rfl rfl (g := (mkF m 11 #[.val (.ref r1), .val (.ref r2)] [(.int (-1 : Int32)), (.ref r1)])) rfl rfl (hb hby d37_11)
  have Fw4 := fc3.same W4
  have KK4 : Keep h0 h4 [r1] := KK1.wr W4 (Or.inl (List.mem_of_getElem? (i := 0) rfl))
  have O4 := O1.wr W4 P6
  have N4 := Fr.snoc X4 N1 P6
  have fc5 := (Fw1.other W4 (Or.inr (slot_ne (Or.inr (w275 hw)) (Or.inl (w278 hw)) (by decide) (t := (.object sN0)) (t' := .int) (by decide) (by decide))))
  obtain ⟨T6, X6, e6, st6⟩ := getF X4 hx hZ hown (host := "") (Or.inl (w274 hw)) Via.refl e4 fc5 (g := (mkF m 16 #[.val (.ref r1), .val (.ref r2)] [(.ref r1), (.ref r1)])) rfl rfl (hb hby d37_16)
  have nz7 : r2 ≠ r1 := (ne_exa P8 P1 (by decide))
  have fc8 := ((P7.other W1 (Or.inl nz7)).other W4 (Or.inl nz7))
  obtain ⟨T9, X9, e9, st9⟩ := getF X6 hx hZ hown (host := "") (Or.inl (w279 hw)) (Via.of (w39 hw)) e6 fc8 (g := (mkF m 19 #[.val (.ref r1), .val (.ref r2)] [(.ref r2), (.ref r1)])) rfl rfl (hb hby d37_19)
  have fc10 := ((P4.other W1 (Or.inr (slot_ne (Or.inl (w281 hw)) (Or.inr (w275 hw)) (by decide) (t := .int) (t' := (.object sN0)) (by decide) (by decide)))).other W4 (Or.inr (slot_ne (Or.inl (w281 hw)) (Or.inl (w278 hw)) (by decide) (t := .int) (t' := .int) (by decide) (by decide))))
  obtain ⟨T11, h11, X11, e11, W11, st11⟩ := putF X9 hx hZ hown (host := "") (Or.inl (w280 hw)) Via.refl e9 fc10 ((P1.wr W1).wr W4) (Or.inl (w281 hw)) (w268 hw) (ty := .int) (by decide) rfl rfl (g := (mkF m 22 #[.val (.ref r1), .val (.ref r2)] [(.int (2 : Int32)), (.ref r1)])) rfl rfl (hb hby d37_22)
  have Fw11 := fc10.same W11
  have KK11 : Keep h0 h11 [r1] := KK4.wr W11 (Or.inl (List.mem_of_getElem? (i := 0) rfl))
  have O11 := O4.wr W11 P6
  have N11 := Fr.snoc X11 N4 P6
  have fc12 := (fc5.other W11 (Or.inr (slot_ne (Or.inr (w275 hw)) (Or.inl (w281 hw)) (by decide) (t := (.object sN0)) (t' := .int) (by decide) (by decide))))
  have fc13 := (Fw4.other W11 (Or.inr (slot_ne (Or.inl (w278 hw)) (Or.inl (w281 hw)) (by decide) (t := .int) (t' := .int) (by decide) (by decide))))
  have fc14 := (((P5.other W1 (Or.inr (slot_ne (Or.inl (w289 hw)) (Or.inr (w275 hw)) (by decide) (t := .int) (t' := (.object sN0)) (by decide) (by decide)))).other W4 (Or.inr (slot_ne (Or.inl (w289 hw)) (Or.inl (w278 hw)) (by decide) (t := .int) (t' := .int) (by decide) (by decide)))).other W11 (Or.inr (slot_ne (Or.inl (w289 hw)) (Or.inl (w281 hw)) (by decide) (t := .int) (t' := .int) (by decide) (by decide))))
  refine ⟨none, _, _, _, _, X11, (fun _ => rfl), ?_, by decide, by decide, fun fs hr => castTop (ef_37_RR m r1 r2) ?_⟩
  · show Q_rm37_0 Z r1 r2 n0 h0 _ T11.heap _
    rw [e11]
    exact ⟨rfl, N11, KK11, fc12, fc13, Fw11, fc14⟩
  · show Steps p.tables e below (s₁.setTop (mkF m 0 #[.val (.ref r1), .val (.ref r2)] [])) _
    refine XS.aloadN X0.here hx rfl (hb hby d37_0) rfl rfl ?_
    refine XS.aloadN X0.here hx rfl (hb hby d37_1) rfl rfl ?_
    refine st1 _ ?_
    refine XS.aloadN X1.here hx rfl (hb hby d37_5) rfl rfl ?_
    refine st2 _ ?_
    refine XS.aloadN X2.here hx rfl (hb hby d37_9) rfl rfl ?_
    refine XS.iconst X2.here hx rfl (hb hby d37_10) ?_
    refine st4 _ ?_
    show Steps p.tables e below (T4.setTop (mkF m 14 #[.val (.ref r1), .val (.ref r2)] [])) _
    refine XS.aloadN X4.here hx rfl (hb hby d37_14) rfl rfl ?_
    refine XS.aloadN X4.here hx rfl (hb hby d37_15) rfl rfl ?_
    refine st6 _ ?_
    refine st9 _ ?_
    refine st11 _ ?_
    exact X11.returnOut hx hret (hb hby d37_25) hr
def Q_rm36_0 (Z : State) (r1 : Addr) (n0 : Nat) (h0 : Heap) (v : Option Value) (h : Heap) (L : List Loc) : Prop := ∃ b1 : Addr, v = (some (.ref b1)) ∧ Fr n0 L ∧ Keep h0 h [] ∧ h0.size ≤ b1 ∧ Exa Z h b1 sN8 ∧ Fld Z h b1 sN8 "this$0" sN32 (.ref r1) ∧ Fld Z h b1 sN8 "lastRet" "I" (.int (-1 : Int32)) ∧ Fld Z h b1 sN8 sN38 "I" (.int (2 : Int32)) ∧ Fld Z h b1 sN8 "cursor" "I" (.int (0 : Int32))
theorem rm36_0 (l : Launch) (Z : State) (a0 : Array Value) (hw : own_HW a0 Z) (r1 : Addr) (h0 : Heap) (n0 : Nat) (O0 : Old Z n0 h0) (P1 : Fld Z h0 r1 sN13 "modCount" "I" (.int (2 : Int32))) (P2 : Exa Z h0 r1 sN0) :
    own_Ct l Z yN40 jdk_38_method_55_code 1 (some (.object sN22)) ({ frames := 2, cells := 1, slots := 4, locals := 26 } : Room) #[(.ref r1)] h0 (Q_rm36_0 Z r1 n0 h0) := by
  refine own_enter (own := sN0) rfl (plainFor_of_name pn_3) ?_
  intro p e s m below meth c s₁ X0 hx hby hml hown hnm hret hZ e0
  have N0 := Fr.nil n0
  obtain ⟨T1, h1, X1, e1, E1, A1, D1, -, st1⟩ := newO X0 hx hZ hown (w267 hw) (w268 hw) (w269 hw) e0 (g := (mkF m 0 #[.val (.ref r1)] [])) rfl (hb hby d36_0) (by decide) (by decide)
  obtain ⟨b1, gq1⟩ : ∃ z, z = h0.size := ⟨_, rfl⟩
  rw [← gq1] at A1 D1 st1
  have g_b1 : n0 ≤ b1 := Nat.le_trans ((O0.1 ▸ O0.2.1) : n0 ≤ h0.size) (Nat.le_of_eq gq1.symm)
  have sz_b1 : h0.size ≤ b1 := Nat.le_trans (Keep.refl h0 []).1 (Nat.le_of_eq gq1.symm)
  have KK1 : Keep h0 h1 [] := (Keep.refl h0 []).ext E1
  have O1 := O0.ext E1
  have F_this_0_b1 : Fld Z h1 b1 sN8 "this$0" sN32 .null := D1 (Or.inr (w275 hw)) (ty := (.object sN0)) (by decide)
  have F_lastRet_b1 : Fld Z h1 b1 sN8 "lastRet" "I" (.int (0 : Int32)) := D1 (Or.inl (w278 hw)) (ty := .int) (by decide)
  have F_expectedModCount_b1 : Fld Z h1 b1 sN8 sN38 "I" (.int (0 : Int32)) := D1 (Or.inl (w281 hw)) (ty := .int) (by decide)
  have F_cursor_b1 : Fld Z h1 b1 sN8 "cursor" "I" (.int (0 : Int32)) := D1 (Or.inl (w289 hw)) (ty := .int) (by decide)
  obtain ⟨_, T2, L2, X2, hQ2, st2⟩ := own_cI X1 hx hZ hown rfl (w270 hw) (w271 hw) (w269 hw) (w273 hw) (rm37_0 l Z a0 hw b1 r1 h1 n0 O1 A1 F_this_0_b1 F_lastRet_b1 F_expectedModCount_b1 F_cursor_b1 g_b1 (P1.ext E1) (P2.ext E1)) e1 (hb hby d36_5) hml pd_66 [(.ref r1)] [(.ref b1)] (g := (mkF m 5 #[.val (.ref r1)] [(.ref r1), (.ref b1), (.ref b1)]))
  obtain ⟨rfl, N2q, K2, f2_0, f2_1, f2_2, f2_3⟩ := hQ2
  have KK2 : Keep h0 T2.heap [] := KK1.trans K2 (allS (Or.inr sz_b1) all0)
  have O2 := O1.keep K2 (allS g_b1 all0)
  have N2 := Fr.app N0 N2q
  refine ⟨(some (.ref b1)), _, _, _, _, X2, (fun h => nomatch h), ?_, by decide, by decide, fun fs hr => castTop (ef_36_R m r1) ?_⟩
  · show Q_rm36_0 Z r1 n0 h0 _ T2.heap _
    exact ⟨b1, rfl, N2, KK2, sz_b1, (A1.keep K2), f2_0, f2_1, f2_2, f2_3⟩
  · show Steps p.tables e below (s₁.setTop (mkF m 0 #[.val (.ref r1)] [])) _
    refine st1 _ ?_
    refine XS.dup X1.here hx rfl (hb hby d36_3) rfl rfl ?_
    refine XS.aloadN X1.here hx rfl (hb hby d36_4) rfl rfl ?_
    refine st2 _ ?_
    exact retA X2 hx hret rfl rfl rfl (hb hby d36_8) hr
theorem rm38_0 (l : Launch) (Z : State) (a0 : Array Value) (hw : own_HW a0 Z) (r1 : Addr) (r2 : Addr) (h0 : Heap) (n0 : Nat) (O0 : Old Z n0 h0) (P1 : Fld Z h0 r1 sN8 "cursor" "I" (.int (0 : Int32))) (P2 : Fld Z h0 r1 sN8 "this$0" sN32 (.ref r2)) (P3 : Fld Z h0 r2 sN0 "size" "I" (.int (2 : Int32))) :
    own_Ct l Z yN25 jdk_49_method_2_code 1 (some .boolean) ({ frames := 0, cells := 0, slots := 0, locals := 0 } : Room) #[(.ref r1)] h0 (own_QP (some (.int (1 : Int32))) n0 h0) := by
  refine own_enter (own := sN8) rfl (plainFor_of_name pn_64) ?_
  intro p e s m below meth c s₁ X0 hx hby hml hown hnm hret hZ e0
  have N0 := Fr.nil n0
  obtain ⟨T1, X1, e1, st1⟩ := getF X0 hx hZ hown (host := "") (Or.inl (w288 hw)) Via.refl e0 P1 (g := (mkF m 1 #[.val (.ref r1)] [(.ref r1)])) rfl rfl (hb hby d38_1)
  obtain ⟨T2, X2, e2, st2⟩ := getF X1 hx hZ hown (host := "") (Or.inl (w274 hw)) Via.refl e1 P2 (g := (mkF m 5 #[.val (.ref r1)] [(.ref r1), (.int (0 : Int32))])) rfl rfl (hb hby d38_5)
  obtain ⟨T3, X3, e3, st3⟩ := getF X2 hx hZ hown (Or.inr (w290 hw)) Via.refl e2 P3 (g := (mkF m 8 #[.val (.ref r1)] [(.ref r2), (.int (0 : Int32))])) rfl rfl (hb hby d38_8)
  refine ⟨(some (.int (1 : Int32))), _, _, _, _, X3, (fun h => nomatch h), ?_, by decide, by decide, fun fs hr => castTop (ef_38_R m r1) ?_⟩
  · show own_QP (some (.int (1 : Int32))) n0 h0 _ T3.heap _
    rw [e3]
    exact ⟨rfl, N0, rfl⟩
  · show Steps p.tables e below (s₁.setTop (mkF m 0 #[.val (.ref r1)] [])) _
    refine XS.aloadN X0.here hx rfl (hb hby d38_0) rfl rfl ?_
    refine st1 _ ?_
    refine XS.aloadN X1.here hx rfl (hb hby d38_4) rfl rfl ?_
    refine st2 _ ?_
    refine st3 _ ?_
    refine XS.icmpNo X3.here hx rfl (hb hby d38_11) rfl (by decide) ?_
    refine XS.iconst X3.here hx rfl (hb hby d38_14) ?_
    refine XS.goto X3.here hx rfl (pc0 := 15) (pc' := 19) rfl (hb hby d38_15) (by decide) (by decide) ?_
    show Steps p.tables e below (T3.setTop (mkF m 19 #[.val (.ref r1)] [(.int (1 : Int32))])) _
    exact retN X3 hx (t := .boolean) hret (by simp) (hb hby d38_19) hr
theorem rm40_0 (l : Launch) (Z : State) (a0 : Array Value) (hw : own_HW a0 Z) (r1 : Addr) (r2 : Addr) (h0 : Heap) (n0 : Nat) (O0 : Old Z n0 h0) (P1 : Fld Z h0 r1 sN8 "this$0" sN32 (.ref r2)) (P2 : Fld Z h0 r2 sN13 "modCount" "I" (.int (2 : Int32))) (P3 : Fld Z h0 r1 sN8 sN38 "I" (.int (2 : Int32))) :
    own_Ct l Z yN26 jdk_49_method_6_code 1 none ({ frames := 0, cells := 0, slots := 0, locals := 0 } : Room) #[(.ref r1)] h0 (own_QP none n0 h0) := by
  refine own_enter (own := sN8) rfl (plainFor_of_name pn_64) ?_
  intro p e s m below meth c s₁ X0 hx hby hml hown hnm hret hZ e0
  have N0 := Fr.nil n0
  obtain ⟨T1, X1, e1, st1⟩ := getF X0 hx hZ hown (host := "") (Or.inl (w274 hw)) Via.refl e0 P1 (g := (mkF m 1 #[.val (.ref r1)] [(.ref r1)])) rfl rfl (hb hby d40_1)
  obtain ⟨T2, X2, e2, st2⟩ := getF X1 hx hZ hown (host := "") (Or.inl (w279 hw)) (Via.of (w39 hw)) e1 P2 (g := (mkF m 4 #[.val (.ref r1)] [(.ref r2)])) rfl rfl (hb hby d40_4)
  obtain ⟨T3, X3, e3, st3⟩ := getF X2 hx hZ hown (host := "") (Or.inl (w280 hw)) Via.refl e2 P3 (g := (mkF m 8 #[.val (.ref r1)] [(.ref r1), (.int (2 : Int32))])) rfl rfl (hb hby d40_8)
  refine ⟨none, _, _, _, _, X3, (fun _ => rfl), ?_, by decide, by decide, fun fs hr => castTop (ef_40_R m r1) ?_⟩
  · show own_QP none n0 h0 _ T3.heap _
    rw [e3]
    exact ⟨rfl, N0, rfl⟩
  · show Steps p.tables e below (s₁.setTop (mkF m 0 #[.val (.ref r1)] [])) _
    refine XS.aloadN X0.here hx rfl (hb hby d40_0) rfl rfl ?_
    refine st1 _ ?_
    refine st2 _ ?_
    refine XS.aloadN X2.here hx rfl (hb hby d40_7) rfl rfl ?_
    refine st3 _ ?_
    refine XS.icmpYes X3.here hx rfl (pc0 := 11) (pc' := 22) rfl (hb hby d40_11) rfl (by decide) (by decide) (by decide) ?_
    exact X3.returnOut hx hret (hb hby d40_22) hr
def Q_rm39_0 (Z : State) (r1 : Addr) (r2 : Addr) (r3 : Addr) (r4 : Addr) (r5 : Addr) (k_r3 : ClassId) (n0 : Nat) (h0 : Heap) (v : Option Value) (h : Heap) (L : List Loc) : Prop := v = (some (.ref r4)) ∧ Fr n0 L ∧ Keep h0 h [r1] ∧ Fld Z h r1 sN8 "this$0" sN32 (.ref r2) ∧ Fld Z h r1 sN8 sN38 "I" (.int (2 : Int32)) ∧ Fld Z h r1 sN8 "cursor" "I" (.int (1 : Int32)) ∧ Fld Z h r1 sN8 "lastRet" "I" (.int (0 : Int32))
theorem rm39_0 (l : Launch) (Z : State) (a0 : Array Value) (hw : own_HW a0 Z) (r1 : Addr) (r2 : Addr) (r3 : Addr) (r4 : Addr) (r5 : Addr) (k_r3 : ClassId) (h0 : Heap) (n0 : Nat) (O0 : Old Z n0 h0) (P1 : Exa Z h0 r1 sN8) (P2 : Fld Z h0 r1 sN8 "this$0" sN32 (.ref r2)) (P3 : Fld Z h0 r2 sN13 "modCount" "I" (.int (2 : Int32))) (P4 : Fld Z h0 r1 sN8 sN38 "I" (.int (2 : Int32))) (P5 : Fld Z h0 r1 sN8 "cursor" "I" (.int (0 : Int32))) (P6 : Fld Z h0 r2 sN0 "size" "I" (.int (2 : Int32))) (P7 : Fld Z h0 r2 sN0 "elementData" sN4 (.ref r3)) (P8 : Arv Z h0 r3 k_r3 (.object sN1) (10 : Int32) [(.ref r4), (.ref r5), .null, .null, .null, .null, .null, .null, .null, .null] .null) (P9 : Fld Z h0 r1 sN8 "lastRet" "I" (.int (-1 : Int32))) (P10 : n0 ≤ r1) (P11 : Exa Z h0 r3 sN4) :
    own_Ct l Z yN33 jdk_49_method_3_code 3 (some (.object sN1)) ({ frames := 1, cells := 0, slots := 0, locals := 12 } : Room) #[(.ref r1)] h0 (Q_rm39_0 Z r1 r2 r3 r4 r5 k_r3 n0 h0) := by
  refine own_enter (own := sN8) rfl (plainFor_of_name pn_64) ?_
  intro p e s m below meth c s₁ X0 hx hby hml hown hnm hret hZ e0
  have N0 := Fr.nil n0
  obtain ⟨_, T1, L1, X1, hQ1, st1⟩ := own_cV X0 hx hZ hown (notFace_of_selects (args := #[]) (mvT hZ (w299 hw))) (w296 hw) (w297 hw) (w299 hw) (w298 hw) (w269 hw) (w300 hw) P1 (rm40_0 l Z a0 hw r1 r2 h0 n0 O0 P2 P3 P4) e0 (hb hby d39_1) hml pd_36 [] [] (g := (mkF m 1 #[.val (.ref r1), .unset, .unset] [(.ref r1)]))
  obtain ⟨rfl, N1q, e1⟩ := hQ1
  have N1 := Fr.app N0 N1q
  obtain ⟨T2, X2, e2, st2⟩ := getF X1 hx hZ hown (host := "") (Or.inl (w288 hw)) Via.refl e1 P5 (g := (mkF m 5 #[.val (.ref r1), .unset, .unset] [(.ref r1)])) rfl rfl (hb hby d39_5)
  obtain ⟨T3, X3, e3, st3⟩ := getF X2 hx hZ hown (host := "") (Or.inl (w274 hw)) Via.refl e2 P2 (g := (mkF m 11 #[.val (.ref r1), .val (.int (0 : Int32)), .unset] [(.ref r1), (.int (0 : Int32))])) rfl rfl (hb hby d39_11)
  obtain ⟨T4, X4, e4, st4⟩ := getF X3 hx hZ hown (Or.inr (w290 hw)) Via.refl e3 P6 (g := (mkF m 14 #[.val (.ref r1), .val (.int (0 : Int32)), .unset] [(.ref r2), (.int (0 : Int32))])) rfl rfl (hb hby d39_14)
  obtain ⟨T5, X5, e5, st5⟩ := getF X4 hx hZ hown (host := "") (Or.inl (w274 hw)) Via.refl e4 P2 (g := (mkF m 29 #[.val (.ref r1), .val (.int (0 : Int32)), .unset] [(.ref r1)])) rfl rfl (hb hby d39_29)
  obtain ⟨T6, X6, e6, st6⟩ := getF X5 hx hZ hown (host := "") (Or.inl (w301 hw)) Via.refl e5 P7 (g := (mkF m 32 #[.val (.ref r1), .val (.int (0 : Int32)), .unset] [(.ref r2)])) rfl rfl (hb hby d39_32)
  obtain ⟨cl7, Ar7, -, Sr7, Nr7, -, -⟩ := id P8
  obtain ⟨T8, h8, X8, e8, W8, st8⟩ := putF X6 hx hZ hown (host := "") (Or.inl (w288 hw)) Via.refl e6 P5 P1 (Or.inl (w289 hw)) (w268 hw) (ty := .int) (by decide) rfl rfl (g := (mkF m 54 #[.val (.ref r1), .val (.int (0 : Int32)), .val (.ref r3)] [(.int (1 : Int32)), (.ref r1)])) rfl rfl (hb hby d39_54)
  have Fw8 := P5.same W8
  have KK8 : Keep h0 h8 [r1] := (Keep.refl h0 [r1]).wr W8 (Or.inl (List.mem_of_getElem? (i := 0) rfl))
  have O8 := O0.wr W8 P10
  have N8 := Fr.snoc X8 N1 P10
  have fc9 := (P9.other W8 (Or.inr (slot_ne (Or.inl (w278 hw)) (Or.inl (w289 hw)) (by decide) (t := .int) (t' := .int) (by decide) (by decide))))
  obtain ⟨T10, h10, X10, e10, W10, st10⟩ := putF X8 hx hZ hown (host := "") (Or.inl (w277 hw)) Via.refl e8 fc9 (P1.wr W8) (Or.inl (w278 hw)) (w268 hw) (ty := .int) (by decide) rfl rfl (g := (mkF m 61 #[.val (.ref r1), .val (.int (0 : Int32)), .val (.ref r3)] [(.int (0 : Int32)), (.ref r1), (.int (0 : Int32)), (.ref r3)])) rfl rfl (hb hby d39_61)
  have Fw10 := fc9.same W10
  have KK10 : Keep h0 h10 [r1] := KK8.wr W10 (Or.inl (List.mem_of_getElem? (i := 0) rfl))
  have O10 := O8.wr W10 P10
  have N10 := Fr.snoc X10 N8 P10
  have nz11 : r3 ≠ r1 := (ne_exa P11 P1 (by decide))
  obtain ⟨cl12, Ar12, -, Sr12, -, Hr12, -⟩ := id ((P8.other W8 nz11).other W10 nz11)
  have hin12 : ¬ ((0 : Int32) < 0 ∨ cl12.slots.size ≤ ((0 : Int32) : Int32).toNatClampNeg) := inb_of Sr12 ⟨by decide, by decide⟩
  have hat12 : cl12.slots[((0 : Int32) : Int32).toNatClampNeg]? = some (.ref r4) := Has.at Hr12 hin12 rfl
  have fc13 := ((P2.other W8 (Or.inr (slot_ne (Or.inr (w275 hw)) (Or.inl (w289 hw)) (by decide) (t := (.object sN0)) (t' := .int) (by decide) (by decide)))).other W10 (Or.inr (slot_ne (Or.inr (w275 hw)) (Or.inl (w278 hw)) (by decide) (t := (.object sN0)) (t' := .int) (by decide) (by decide))))
  have fc14 := ((P4.other W8 (Or.inr (slot_ne (Or.inl (w281 hw)) (Or.inl (w289 hw)) (by decide) (t := .int) (t' := .int) (by decide) (by decide)))).other W10 (Or.inr (slot_ne (Or.inl (w281 hw)) (Or.inl (w278 hw)) (by decide) (t := .int) (t' := .int) (by decide) (by decide))))
  have fc15 := (Fw8.other W10 (Or.inr (slot_ne (Or.inl (w289 hw)) (Or.inl (w278 hw)) (by decide) (t := .int) (t' := .int) (by decide) (by decide))))
  refine ⟨(some (.ref r4)), _, _, _, _, X10, (fun h => nomatch h), ?_, by decide, by decide, fun fs hr => castTop (ef_39_R m r1) ?_⟩
  · show Q_rm39_0 Z r1 r2 r3 r4 r5 k_r3 n0 h0 _ T10.heap _
    rw [e10]
    exact ⟨rfl, N10, KK10, fc13, fc14, fc15, Fw10⟩
  · show Steps p.tables e below (s₁.setTop (mkF m 0 #[.val (.ref r1), .unset, .unset] [])) _
    refine XS.aloadN X0.here hx rfl (hb hby d39_0) rfl rfl ?_
    refine st1 _ ?_
    refine XS.aloadN X1.here hx rfl (hb hby d39_4) rfl rfl ?_
    refine st2 _ ?_
    refine XS.istoreN X2.here hx rfl (hb hby d39_8) rfl (l' := #[.val (.ref r1), .val (.int (0 : Int32)), .unset]) rfl ?_
    refine XS.iloadN X2.here hx rfl (hb hby d39_9) rfl ?_
    refine XS.aloadN X2.here hx rfl (hb hby d39_10) rfl rfl ?_
    refine st3 _ ?_
    show Steps p.tables e below (T3.setTop (mkF m 14 #[.val (.ref r1), .val (.int (0 : Int32)), .unset] [(.ref r2), (.int (0 : Int32))])) _
    refine st4 _ ?_
    refine XS.icmpYes X4.here hx rfl (pc0 := 17) (pc' := 28) rfl (hb hby d39_17) rfl (by decide) (by decide) (by decide) ?_
    refine XS.aloadN X4.here hx rfl (hb hby d39_28) rfl rfl ?_
    refine st5 _ ?_
    refine st6 _ ?_
    refine XS.astoreN X6.here hx rfl (hb hby d39_35) rfl rfl (l' := #[.val (.ref r1), .val (.int (0 : Int32)), .val (.ref r3)]) rfl ?_
    refine XS.iloadN X6.here hx rfl (hb hby d39_36) rfl ?_
    refine XS.aloadN X6.here hx rfl (hb hby d39_37) rfl rfl ?_
    show Steps p.tables e below (T6.setTop (mkF m 38 #[.val (.ref r1), .val (.int (0 : Int32)), .val (.ref r3)] [(.ref r3), (.int (0 : Int32))])) _
    refine X6.arraylength hx (by rw [e6]; exact Ar7.1) (State.isArrayOf_alike hZ.alike Ar7.2.1) (g := (mkF m 38 #[.val (.ref r1), .val (.int (0 : Int32)), .val (.ref r3)] [(.ref r3), (.int (0 : Int32))])) rfl rfl (hb hby d39_38) _ ?_
    rw [len_of Sr7 Nr7]
    refine XS.icmpYes X6.here hx rfl (pc0 := 39) (pc' := 50) rfl (hb hby d39_39) rfl (by decide) (by decide) (by decide) ?_
    refine XS.aloadN X6.here hx rfl (hb hby d39_50) rfl rfl ?_
    refine XS.iloadN X6.here hx rfl (hb hby d39_51) rfl ?_
    refine XS.iconst X6.here hx rfl (hb hby d39_52) ?_
    refine XS.iadd X6.here hx rfl (hb hby d39_53) rfl ?_
    show Steps p.tables e below (T6.setTop (mkF m 54 #[.val (.ref r1), .val (.int (0 : Int32)), .val (.ref r3)] [(.int ((0 : Int32) + (1 : Int32))), (.ref r1)])) _
    rw [fo_0]
    refine st8 _ ?_
    refine XS.aloadN X8.here hx rfl (hb hby d39_57) rfl rfl ?_
    refine XS.aloadN X8.here hx rfl (hb hby d39_58) rfl rfl ?_
    refine XS.iloadN X8.here hx rfl (hb hby d39_59) rfl ?_
    refine XS.dupX1 X8.here hx rfl (hb hby d39_60) rfl rfl rfl ?_
    refine st10 _ ?_
    refine X10.aaload hx (j := (0 : Int32)) (v := (.ref r4)) (by rw [e10]; exact Ar12.1) (State.isArrayOf_alike hZ.alike Ar12.2.1) rfl Ar12.2.2 hin12 hat12 (g := (mkF m 64 #[.val (.ref r1), .val (.int (0 : Int32)), .val (.ref r3)] [(.int (0 : Int32)), (.ref r3)])) rfl rfl (hb hby d39_64) _ ?_
    show Steps p.tables e below (T10.setTop (mkF m 65 #[.val (.ref r1), .val (.int (0 : Int32)), .val (.ref r3)] [(.ref r4)])) _
    exact retA X10 hx hret rfl rfl rfl (hb hby d39_65) hr
theorem rm41_0 (l : Launch) (Z : State) (a0 : Array Value) (hw : own_HW a0 Z) (r1 : Addr) (h0 : Heap) (n0 : Nat) (O0 : Old Z n0 h0) (P1 : Fld Z h0 r1 sN2 "size" "I" (.int (0 : Int32))) :
    own_Ct l Z yN7 prog_167_method_8_code 1 (some .boolean) ({ frames := 0, cells := 0, slots := 0, locals := 0 } : Room) #[(.ref r1)] h0 (own_QP (some (.int (1 : Int32))) n0 h0) := by
  refine own_enter (own := sN2) rfl (plainFor_of_name pn_23) ?_
  intro p e s m below meth c s₁ X0 hx hby hml hown hnm hret hZ e0
  have N0 := Fr.nil n0
  obtain ⟨T1, X1, e1, st1⟩ := getF X0 hx hZ hown (host := "") (Or.inl (w123 hw)) Via.refl e0 P1 (g := (mkF m 1 #[.val (.ref r1)] [(.ref r1)])) rfl rfl (hb hby d41_1)
  refine ⟨(some (.int (1 : Int32))), _, _, _, _, X1, (fun h => nomatch h), ?_, by decide, by decide, fun fs hr => castTop (ef_41_R m r1) ?_⟩
  · show own_QP (some (.int (1 : Int32))) n0 h0 _ T1.heap _
    rw [e1]
    exact ⟨rfl, N0, rfl⟩
  · show Steps p.tables e below (s₁.setTop (mkF m 0 #[.val (.ref r1)] [])) _
    refine XS.aloadN X0.here hx rfl (hb hby d41_0) rfl rfl ?_
    refine st1 _ ?_
    refine XS.ifNo X1.here hx rfl (hb hby d41_4) rfl (by decide) ?_
    refine XS.iconst X1.here hx rfl (hb hby d41_7) ?_
    refine XS.goto X1.here hx rfl (pc0 := 8) (pc' := 12) rfl (hb hby d41_8) (by decide) (by decide) ?_
    exact retN X1 hx (t := .boolean) hret (by simp) (hb hby d41_12) hr
theorem rm38_1 (l : Launch) (Z : State) (a0 : Array Value) (hw : own_HW a0 Z) (r1 : Addr) (r2 : Addr) (h0 : Heap) (n0 : Nat) (O0 : Old Z n0 h0) (P1 : Fld Z h0 r1 sN8 "cursor" "I" (.int (1 : Int32))) (P2 : Fld Z h0 r1 sN8 "this$0" sN32 (.ref r2)) (P3 : Fld Z h0 r2 sN0 "size" "I" (.int (2 : Int32))) :
    own_Ct l Z yN25 jdk_49_method_2_code 1 (some .boolean) ({ frames := 0, cells := 0, slots := 0, locals := 0 } : Room) #[(.ref r1)] h0 (own_QP (some (.int (1 : Int32))) n0 h0) := by
  refine own_enter (own := sN8) rfl (plainFor_of_name pn_64) ?_
  intro p e s m below meth c s₁ X0 hx hby hml hown hnm hret hZ e0
  have N0 := Fr.nil n0
  obtain ⟨T1, X1, e1, st1⟩ := getF X0 hx hZ hown (host := "") (Or.inl (w288 hw)) Via.refl e0 P1 (g := (mkF m 1 #[.val (.ref r1)] [(.ref r1)])) rfl rfl (hb hby d38_1)
  obtain ⟨T2, X2, e2, st2⟩ := getF X1 hx hZ hown (host := "") (Or.inl (w274 hw)) Via.refl e1 P2 (g := (mkF m 5 #[.val (.ref r1)] [(.ref r1), (.int (1 : Int32))])) rfl rfl (hb hby d38_5)
  obtain ⟨T3, X3, e3, st3⟩ := getF X2 hx hZ hown (Or.inr (w290 hw)) Via.refl e2 P3 (g := (mkF m 8 #[.val (.ref r1)] [(.ref r2), (.int (1 : Int32))])) rfl rfl (hb hby d38_8)
  refine ⟨(some (.int (1 : Int32))), _, _, _, _, X3, (fun h => nomatch h), ?_, by decide, by decide, fun fs hr => castTop (ef_38_R m r1) ?_⟩
  · show own_QP (some (.int (1 : Int32))) n0 h0 _ T3.heap _
    rw [e3]
    exact ⟨rfl, N0, rfl⟩
  · show Steps p.tables e below (s₁.setTop (mkF m 0 #[.val (.ref r1)] [])) _
    refine XS.aloadN X0.here hx rfl (hb hby d38_0) rfl rfl ?_
    refine st1 _ ?_
    refine XS.aloadN X1.here hx rfl (hb hby d38_4) rfl rfl ?_
    refine st2 _ ?_
    refine st3 _ ?_
    refine XS.icmpNo X3.here hx rfl (hb hby d38_11) rfl (by decide) ?_
    refine XS.iconst X3.here hx rfl (hb hby d38_14) ?_
    refine XS.goto X3.here hx rfl (pc0 := 15) (pc' := 19) rfl (hb hby d38_15) (by decide) (by decide) ?_
    show Steps p.tables e below (T3.setTop (mkF m 19 #[.val (.ref r1)] [(.int (1 : Int32))])) _
    exact retN X3 hx (t := .boolean) hret (by simp) (hb hby d38_19) hr
def Q_rm39_1 (Z : State) (r1 : Addr) (r2 : Addr) (r3 : Addr) (r4 : Addr) (r5 : Addr) (k_r3 : ClassId) (n0 : Nat) (h0 : Heap) (v : Option Value) (h : Heap) (L : List Loc) : Prop := v = (some (.ref r5)) ∧ Fr n0 L ∧ Keep h0 h [r1] ∧ Fld Z h r1 sN8 "this$0" sN32 (.ref r2) ∧ Fld Z h r1 sN8 sN38 "I" (.int (2 : Int32)) ∧ Fld Z h r1 sN8 "cursor" "I" (.int (2 : Int32)) ∧ Fld Z h r1 sN8 "lastRet" "I" (.int (1 : Int32))
theorem rm39_1 (l : Launch) (Z : State) (a0 : Array Value) (hw : own_HW a0 Z) (r1 : Addr) (r2 : Addr) (r3 : Addr) (r4 : Addr) (r5 : Addr) (k_r3 : ClassId) (h0 : Heap) (n0 : Nat) (O0 : Old Z n0 h0) (P1 : Exa Z h0 r1 sN8) (P2 : Fld Z h0 r1 sN8 "this$0" sN32 (.ref r2)) (P3 : Fld Z h0 r2 sN13 "modCount" "I" (.int (2 : Int32))) (P4 : Fld Z h0 r1 sN8 sN38 "I" (.int (2 : Int32))) (P5 : Fld Z h0 r1 sN8 "cursor" "I" (.int (1 : Int32))) (P6 : Fld Z h0 r2 sN0 "size" "I" (.int (2 : Int32))) (P7 : Fld Z h0 r2 sN0 "elementData" sN4 (.ref r3)) (P8 : Arv Z h0 r3 k_r3 (.object sN1) (10 : Int32) [(.ref r4), (.ref r5), .null, .null, .null, .null, .null, .null, .null, .null] .null) (P9 : Fld Z h0 r1 sN8 "lastRet" "I" (.int (0 : Int32))) (P10 : n0 ≤ r1) (P11 : Exa Z h0 r3 sN4) :
    own_Ct l Z yN33 jdk_49_method_3_code 3 (some (.object sN1)) ({ frames := 1, cells := 0, slots := 0, locals := 12 } : Room) #[(.ref r1)] h0 (Q_rm39_1 Z r1 r2 r3 r4 r5 k_r3 n0 h0) := by
  refine own_enter (own := sN8) rfl (plainFor_of_name pn_64) ?_
  intro p e s m below meth c s₁ X0 hx hby hml hown hnm hret hZ e0
  have N0 := Fr.nil n0
  obtain ⟨_, T1, L1, X1, hQ1, st1⟩ := own_cV X0 hx hZ hown (notFace_of_selects (args := #[]) (mvT hZ (w299 hw))) (w296 hw) (w297 hw) (w299 hw) (w298 hw) (w269 hw) (w300 hw) P1 (rm40_0 l Z a0 hw r1 r2 h0 n0 O0 P2 P3 P4) e0 (hb hby d39_1) hml pd_36 [] [] (g := (mkF m 1 #[.val (.ref r1), .unset, .unset] [(.ref r1)]))
  obtain ⟨rfl, N1q, e1⟩ := hQ1
  have N1 := Fr.app N0 N1q
  obtain ⟨T2, X2, e2, st2⟩ := getF X1 hx hZ hown (host := "") (Or.inl (w288 hw)) Via.refl e1 P5 (g := (mkF m 5 #[.val (.ref r1), .unset, .unset] [(.ref r1)])) rfl rfl (hb hby d39_5)
  obtain ⟨T3, X3, e3, st3⟩ := getF X2 hx hZ hown (host := "") (Or.inl (w274 hw)) Via.refl e2 P2 (g := (mkF m 11 #[.val (.ref r1), .val (.int (1 : Int32)), .unset] [(.ref r1), (.int (1 : Int32))])) rfl rfl (hb hby d39_11)
  obtain ⟨T4, X4, e4, st4⟩ := getF X3 hx hZ hown (Or.inr (w290 hw)) Via.refl e3 P6 (g := (mkF m 14 #[.val (.ref r1), .val (.int (1 : Int32)), .unset] [(.ref r2), (.int (1 : Int32))])) rfl rfl (hb hby d39_14)
  obtain ⟨T5, X5, e5, st5⟩ := getF X4 hx hZ hown (host := "") (Or.inl (w274 hw)) Via.refl e4 P2 (g := (mkF m 29 #[.val (.ref r1), .val (.int (1 : Int32)), .unset] [(.ref r1)])) rfl rfl (hb hby d39_29)
  obtain ⟨T6, X6, e6, st6⟩ := getF X5 hx hZ hown (host := "") (Or.inl (w301 hw)) Via.refl e5 P7 (g := (mkF m 32 #[.val (.ref r1), .val (.int (1 : Int32)), .unset] [(.ref r2)])) rfl rfl (hb hby d39_32)
  obtain ⟨cl7, Ar7, -, Sr7, Nr7, -, -⟩ := id P8
  obtain ⟨T8, h8, X8, e8, W8, st8⟩ := putF X6 hx hZ hown (host := "") (Or.inl (w288 hw)) Via.refl e6 P5 P1 (Or.inl (w289 hw)) (w268 hw) (ty := .int) (by decide) rfl rfl (g := (mkF m 54 #[.val (.ref r1), .val (.int (1 : Int32)), .val (.ref r3)] [(.int (2 : Int32)), (.ref r1)])) rfl rfl (hb hby d39_54)
  have Fw8 := P5.same W8
  have KK8 : Keep h0 h8 [r1] := (Keep.refl h0 [r1]).wr W8 (Or.inl (List.mem_of_getElem? (i := 0) rfl))
  have O8 := O0.wr W8 P10
  have N8 := Fr.snoc X8 N1 P10
  have fc9 := (P9.other W8 (Or.inr (slot_ne (Or.inl (w278 hw)) (Or.inl (w289 hw)) (by decide) (t := .int) (t' := .int) (by decide) (by decide))))
  obtain ⟨T10, h10, X10, e10, W10, st10⟩ := putF X8 hx hZ hown (host := "") (Or.inl (w277 hw)) Via.refl e8 fc9 (P1.wr W8) (Or.inl (w278 hw)) (w268 hw) (ty := .int) (by decide) rfl rfl (g := (mkF m 61 #[.val (.ref r1), .val (.int (1 : Int32)), .val (.ref r3)] [(.int (1 : Int32)), (.ref r1), (.int (1 : Int32)), (.ref r3)])) rfl rfl (hb hby d39_61)
  have Fw10 := fc9.same W10
  have KK10 : Keep h0 h10 [r1] := KK8.wr W10 (Or.inl (List.mem_of_getElem? (i := 0) rfl))
  have O10 := O8.wr W10 P10
  have N10 := Fr.snoc X10 N8 P10
  have nz11 : r3 ≠ r1 := (ne_exa P11 P1 (by decide))
  obtain ⟨cl12, Ar12, -, Sr12, -, Hr12, -⟩ := id ((P8.other W8 nz11).other W10 nz11)
  have hin12 : ¬ ((1 : Int32) < 0 ∨ cl12.slots.size ≤ ((1 : Int32) : Int32).toNatClampNeg) := inb_of Sr12 ⟨by decide, by decide⟩
  have hat12 : cl12.slots[((1 : Int32) : Int32).toNatClampNeg]? = some (.ref r5) := Has.at Hr12 hin12 rfl
  have fc13 := ((P2.other W8 (Or.inr (slot_ne (Or.inr (w275 hw)) (Or.inl (w289 hw)) (by decide) (t := (.object sN0)) (t' := .int) (by decide) (by decide)))).other W10 (Or.inr (slot_ne (Or.inr (w275 hw)) (Or.inl (w278 hw)) (by decide) (t := (.object sN0)) (t' := .int) (by decide) (by decide))))
  have fc14 := ((P4.other W8 (Or.inr (slot_ne (Or.inl (w281 hw)) (Or.inl (w289 hw)) (by decide) (t := .int) (t' := .int) (by decide) (by decide)))).other W10 (Or.inr (slot_ne (Or.inl (w281 hw)) (Or.inl (w278 hw)) (by decide) (t := .int) (t' := .int) (by decide) (by decide))))
  have fc15 := (Fw8.other W10 (Or.inr (slot_ne (Or.inl (w289 hw)) (Or.inl (w278 hw)) (by decide) (t := .int) (t' := .int) (by decide) (by decide))))
  refine ⟨(some (.ref r5)), _, _, _, _, X10, (fun h => nomatch h), ?_, by decide, by decide, fun fs hr => castTop (ef_39_R m r1) ?_⟩
  · show Q_rm39_1 Z r1 r2 r3 r4 r5 k_r3 n0 h0 _ T10.heap _
    rw [e10]
    exact ⟨rfl, N10, KK10, fc13, fc14, fc15, Fw10⟩
  · show Steps p.tables e below (s₁.setTop (mkF m 0 #[.val (.ref r1), .unset, .unset] [])) _
    refine XS.aloadN X0.here hx rfl (hb hby d39_0) rfl rfl ?_
    refine st1 _ ?_
    refine XS.aloadN X1.here hx rfl (hb hby d39_4) rfl rfl ?_
    refine st2 _ ?_
    refine XS.istoreN X2.here hx rfl (hb hby d39_8) rfl (l' := #[.val (.ref r1), .val (.int (1 : Int32)), .unset]) rfl ?_
    refine XS.iloadN X2.here hx rfl (hb hby d39_9) rfl ?_
    refine XS.aloadN X2.here hx rfl (hb hby d39_10) rfl rfl ?_
    refine st3 _ ?_
    show Steps p.tables e below (T3.setTop (mkF m 14 #[.val (.ref r1), .val (.int (1 : Int32)), .unset] [(.ref r2), (.int (1 : Int32))])) _
    refine st4 _ ?_
    refine XS.icmpYes X4.here hx rfl (pc0 := 17) (pc' := 28) rfl (hb hby d39_17) rfl (by decide) (by decide) (by decide) ?_
    refine XS.aloadN X4.here hx rfl (hb hby d39_28) rfl rfl ?_
    refine st5 _ ?_
    refine st6 _ ?_
    refine XS.astoreN X6.here hx rfl (hb hby d39_35) rfl rfl (l' := #[.val (.ref r1), .val (.int (1 : Int32)), .val (.ref r3)]) rfl ?_
    refine XS.iloadN X6.here hx rfl (hb hby d39_36) rfl ?_
    refine XS.aloadN X6.here hx rfl (hb hby d39_37) rfl rfl ?_
    show Steps p.tables e below (T6.setTop (mkF m 38 #[.val (.ref r1), .val (.int (1 : Int32)), .val (.ref r3)] [(.ref r3), (.int (1 : Int32))])) _
    refine X6.arraylength hx (by rw [e6]; exact Ar7.1) (State.isArrayOf_alike hZ.alike Ar7.2.1) (g := (mkF m 38 #[.val (.ref r1), .val (.int (1 : Int32)), .val (.ref r3)] [(.ref r3), (.int (1 : Int32))])) rfl rfl (hb hby d39_38) _ ?_
    rw [len_of Sr7 Nr7]
    refine XS.icmpYes X6.here hx rfl (pc0 := 39) (pc' := 50) rfl (hb hby d39_39) rfl (by decide) (by decide) (by decide) ?_
    refine XS.aloadN X6.here hx rfl (hb hby d39_50) rfl rfl ?_
    refine XS.iloadN X6.here hx rfl (hb hby d39_51) rfl ?_
    refine XS.iconst X6.here hx rfl (hb hby d39_52) ?_
    refine XS.iadd X6.here hx rfl (hb hby d39_53) rfl ?_
    show Steps p.tables e below (T6.setTop (mkF m 54 #[.val (.ref r1), .val (.int (1 : Int32)), .val (.ref r3)] [(.int ((1 : Int32) + (1 : Int32))), (.ref r1)])) _
    rw [fo_1]
    refine st8 _ ?_
    refine XS.aloadN X8.here hx rfl (hb hby d39_57) rfl rfl ?_
    refine XS.aloadN X8.here hx rfl (hb hby d39_58) rfl rfl ?_
    refine XS.iloadN X8.here hx rfl (hb hby d39_59) rfl ?_
    refine XS.dupX1 X8.here hx rfl (hb hby d39_60) rfl rfl rfl ?_
    refine st10 _ ?_
    refine X10.aaload hx (j := (1 : Int32)) (v := (.ref r5)) (by rw [e10]; exact Ar12.1) (State.isArrayOf_alike hZ.alike Ar12.2.1) rfl Ar12.2.2 hin12 hat12 (g := (mkF m 64 #[.val (.ref r1), .val (.int (1 : Int32)), .val (.ref r3)] [(.int (1 : Int32)), (.ref r3)])) rfl rfl (hb hby d39_64) _ ?_
    show Steps p.tables e below (T10.setTop (mkF m 65 #[.val (.ref r1), .val (.int (1 : Int32)), .val (.ref r3)] [(.ref r5)])) _
    exact retA X10 hx hret rfl rfl rfl (hb hby d39_65) hr
theorem rm38_2 (l : Launch) (Z : State) (a0 : Array Value) (hw : own_HW a0 Z) (r1 : Addr) (r2 : Addr) (h0 : Heap) (n0 : Nat) (O0 : Old Z n0 h0) (P1 : Fld Z h0 r1 sN8 "cursor" "I" (.int (2 : Int32))) (P2 : Fld Z h0 r1 sN8 "this$0" sN32 (.ref r2)) (P3 : Fld Z h0 r2 sN0 "size" "I" (.int (2 : Int32))) :
    own_Ct l Z yN25 jdk_49_method_2_code 1 (some .boolean) ({ frames := 0, cells := 0, slots := 0, locals := 0 } : Room) #[(.ref r1)] h0 (own_QP (some (.int (0 : Int32))) n0 h0) := by
  refine own_enter (own := sN8) rfl (plainFor_of_name pn_64) ?_
  intro p e s m below meth c s₁ X0 hx hby hml hown hnm hret hZ e0
  have N0 := Fr.nil n0
  obtain ⟨T1, X1, e1, st1⟩ := getF X0 hx hZ hown (host := "") (Or.inl (w288 hw)) Via.refl e0 P1 (g := (mkF m 1 #[.val (.ref r1)] [(.ref r1)])) rfl rfl (hb hby d38_1)
  obtain ⟨T2, X2, e2, st2⟩ := getF X1 hx hZ hown (host := "") (Or.inl (w274 hw)) Via.refl e1 P2 (g := (mkF m 5 #[.val (.ref r1)] [(.ref r1), (.int (2 : Int32))])) rfl rfl (hb hby d38_5)
  obtain ⟨T3, X3, e3, st3⟩ := getF X2 hx hZ hown (Or.inr (w290 hw)) Via.refl e2 P3 (g := (mkF m 8 #[.val (.ref r1)] [(.ref r2), (.int (2 : Int32))])) rfl rfl (hb hby d38_8)
  refine ⟨(some (.int (0 : Int32))), _, _, _, _, X3, (fun h => nomatch h), ?_, by decide, by decide, fun fs hr => castTop (ef_38_R m r1) ?_⟩
  · show own_QP (some (.int (0 : Int32))) n0 h0 _ T3.heap _
    rw [e3]
    exact ⟨rfl, N0, rfl⟩
  · show Steps p.tables e below (s₁.setTop (mkF m 0 #[.val (.ref r1)] [])) _
    refine XS.aloadN X0.here hx rfl (hb hby d38_0) rfl rfl ?_
    refine st1 _ ?_
    refine XS.aloadN X1.here hx rfl (hb hby d38_4) rfl rfl ?_
    refine st2 _ ?_
    refine st3 _ ?_
    refine XS.icmpYes X3.here hx rfl (pc0 := 11) (pc' := 18) rfl (hb hby d38_11) rfl (by decide) (by decide) (by decide) ?_
    refine XS.iconst X3.here hx rfl (hb hby d38_18) ?_
    exact retN X3 hx (t := .boolean) hret (by simp) (hb hby d38_19) hr
theorem rm34_1 (l : Launch) (Z : State) (a0 : Array Value) (hw : own_HW a0 Z) (r1 : Addr) (h0 : Heap) (n0 : Nat) (O0 : Old Z n0 h0) (P1 : Fld Z h0 r1 sN0 "size" "I" (.int (0 : Int32))) :
    own_Ct l Z yN24 jdk_38_method_8_code 1 (some .int) ({ frames := 0, cells := 0, slots := 0, locals := 0 } : Room) #[(.ref r1)] h0 (own_QP (some (.int (0 : Int32))) n0 h0) := by
  refine own_enter (own := sN0) rfl (plainFor_of_name pn_3) ?_
  intro p e s m below meth c s₁ X0 hx hby hml hown hnm hret hZ e0
  have N0 := Fr.nil n0
  obtain ⟨T1, X1, e1, st1⟩ := getF X0 hx hZ hown (host := "") (Or.inl (w40 hw)) Via.refl e0 P1 (g := (mkF m 1 #[.val (.ref r1)] [(.ref r1)])) rfl rfl (hb hby d34_1)
  refine ⟨(some (.int (0 : Int32))), _, _, _, _, X1, (fun h => nomatch h), ?_, by decide, by decide, fun fs hr => castTop (ef_34_R m r1) ?_⟩
  · show own_QP (some (.int (0 : Int32))) n0 h0 _ T1.heap _
    rw [e1]
    exact ⟨rfl, N0, rfl⟩
  · show Steps p.tables e below (s₁.setTop (mkF m 0 #[.val (.ref r1)] [])) _
    refine XS.aloadN X0.here hx rfl (hb hby d34_0) rfl rfl ?_
    refine st1 _ ?_
    exact retI X1 hx hret (hb hby d34_4) hr
def Q_rm50_0 (Z : State) (r1 : Addr) (w_BOOLEAN : Addr) (w_LIST : Addr) (n0 : Nat) (h0 : Heap) (v : Option Value) (h : Heap) (L : List Loc) : Prop := v = none ∧ Fr n0 L ∧ Keep h0 h [r1] ∧ Fld Z h r1 sN2 "dataType" sN15 (.ref w_BOOLEAN) ∧ Fld Z h r1 sN2 "values" sN10 .null ∧ Fld Z h r1 sN2 "size" "I" (.int (0 : Int32)) ∧ Fld Z h r1 sN2 "parts" sN10 (.ref w_LIST)
theorem rm50_0 (l : Launch) (Z : State) (a0 : Array Value) (hw : own_HW a0 Z) (r1 : Addr) (w_BOOLEAN : Addr) (w_LIST : Addr) (h0 : Heap) (n0 : Nat) (O0 : Old Z n0 h0) (P1 : Exa Z h0 r1 sN2) (P2 : Fld Z h0 r1 sN2 "dataType" sN15 .null) (P3 : Fld Z h0 r1 sN2 "values" sN10 .null) (P4 : Fld Z h0 r1 sN2 "size" "I" (.int (0 : Int32))) (P5 : Fld Z h0 r1 sN2 "parts" sN10 .null) (P6 : n0 ≤ r1) :
    own_Ct l Z yN43 prog_167_method_2_code 4 none ({ frames := 1, cells := 0, slots := 0, locals := 12 } : Room) #[(.ref r1), (.ref w_BOOLEAN), (.ref w_LIST), (.int (0 : Int32))] h0 (Q_rm50_0 Z r1 w_BOOLEAN w_LIST n0 h0) := by
  refine own_enter (own := sN2) rfl (plainFor_of_name pn_23) ?_
  intro p e s m below meth c s₁ X0 hx hby hml hown hnm hret hZ e0
  have N0 := Fr.nil n0
  obtain ⟨T1, X1, e1, st1⟩ := initO X0 hx hZ hown (w73 hw) (w19 hw) (w20 hw) e0 (g := (mkF m 1 #[.val (.ref r1), .val (.ref w_BOOLEAN), .val (.ref w_LIST), .val (.int (0 : Int32))] [(.ref r1)])) rfl (by rw [hml]; rfl) rfl (hb hby d50_1) (by decide) (W := 0) (by show 2 * 0 + _ ≤ _; exact Nat.le_of_eq rfl) (by decide)
  obtain ⟨T2, h2, X2, e2, W2, st2⟩ := putF X1 hx hZ hown (host := "") (Or.inl (w80 hw)) Via.refl e1 P2 P1 (Or.inr ⟨(w81 hw), rfl, hnm⟩) (w65 hw) (ty := (.object sN12)) (by decide) rfl rfl (g := (mkF m 6 #[.val (.ref r1), .val (.ref w_BOOLEAN), .val (.ref w_LIST), .val (.int (0 : Int32))] [(.ref w_BOOLEAN), (.ref r1)])) rfl rfl (hb hby d50_6)
  have Fw2 := P2.same W2
  have KK2 : Keep h0 h2 [r1] := (Keep.refl h0 [r1]).wr W2 (Or.inl (List.mem_of_getElem? (i := 0) rfl))
  have O2 := O0.wr W2 P6
  have N2 := Fr.snoc X2 N0 P6
  have fc3 := (P3.other W2 (Or.inr (slot_ne (Or.inr (w110 hw)) (Or.inr (w81 hw)) (by decide) (t := (.object sN3)) (t' := (.object sN12)) (by decide) (by decide))))
  obtain ⟨T4, h4, X4, e4, W4, st4⟩ := putF X2 hx hZ hown (host := "") (Or.inl (w109 hw)) Via.refl e2 fc3 (P1.wr W2) (Or.inr ⟨(w110 hw), rfl, hnm⟩) (w65 hw) (ty := (.object sN3)) (by decide) rfl rfl (g := (mkF m 11 #[.val (.ref r1), .val (.ref w_BOOLEAN), .val (.ref w_LIST), .val (.int (0 : Int32))] [.null, (.ref r1)])) rfl rfl (hb hby d50_11)
  have Fw4 := fc3.same W4
  have KK4 : Keep h0 h4 [r1] := KK2.wr W4 (Or.inl (List.mem_of_getElem? (i := 0) rfl))
  have O4 := O2.wr W4 P6
  have N4 := Fr.snoc X4 N2 P6
  have fc5 := ((P5.other W2 (Or.inr (slot_ne (Or.inr (w126 hw)) (Or.inr (w81 hw)) (by decide) (t := (.object sN3)) (t' := (.object sN12)) (by decide) (by decide)))).other W4 (Or.inr (slot_ne (Or.inr (w126 hw)) (Or.inr (w110 hw)) (by decide) (t := (.object sN3)) (t' := (.object sN3)) (by decide) (by decide))))
  obtain ⟨T6, h6, X6, e6, W6, st6⟩ := putF X4 hx hZ hown (host := "") (Or.inl (w125 hw)) Via.refl e4 fc5 ((P1.wr W2).wr W4) (Or.inr ⟨(w126 hw), rfl, hnm⟩) (w65 hw) (ty := (.object sN3)) (by decide) rfl rfl (g := (mkF m 16 #[.val (.ref r1), .val (.ref w_BOOLEAN), .val (.ref w_LIST), .val (.int (0 : Int32))] [(.ref w_LIST), (.ref r1)])) rfl rfl (hb hby d50_16)
  have Fw6 := fc5.same W6
  have KK6 : Keep h0 h6 [r1] := KK4.wr W6 (Or.inl (List.mem_of_getElem? (i := 0) rfl))
  have O6 := O4.wr W6 P6
  have N6 := Fr.snoc X6 N4 P6
  have fc7 := (((P4.other W2 (Or.inr (slot_ne (Or.inr (w124 hw)) (Or.inr (w81 hw)) (by decide) (t := .int) (t' := (.object sN12)) (by decide) (by decide)))).other W4 (Or.inr (slot_ne (Or.inr (w124 hw)) (Or.inr (w110 hw)) (by decide) (t := .int) (t' := (.object sN3)) (by decide) (by decide)))).other W6 (Or.inr (slot_ne (Or.inr (w124 hw)) (Or.inr (w126 hw)) (by decide) (t := .int) (t' := (.object sN3)) (by decide) (by decide))))
  obtain ⟨T8, h8, X8, e8, W8, st8⟩ := putF X6 hx hZ hown (host := "") (Or.inl (w123 hw)) Via.refl e6 fc7 (((P1.wr W2).wr W4).wr W6) (Or.inr ⟨(w124 hw), rfl, hnm⟩) (w65 hw) (ty := .int) (by decide) rfl rfl (g := (mkF m 21 #[.val (.ref r1), .val (.ref w_BOOLEAN), .val (.ref w_LIST), .val (.int (0 : Int32))] [(.int (0 : Int32)), (.ref r1)])) rfl rfl (hb hby d50_21)
  have Fw8 := fc7.same W8
  have KK8 : Keep h0 h8 [r1] := KK6.wr W8 (Or.inl (List.mem_of_getElem? (i := 0) rfl))
  have O8 := O6.wr W8 P6
  have N8 := Fr.snoc X8 N6 P6
  have fc9 := (((Fw2.other W4 (Or.inr (slot_ne (Or.inr (w81 hw)) (Or.inr (w110 hw)) (by decide) (t := (.object sN12)) (t' := (.object sN3)) (by decide) (by decide)))).other W6 (Or.inr (slot_ne (Or.inr (w81 hw)) (Or.inr (w126 hw)) (by decide) (t := (.object sN12)) (t' := (.object sN3)) (by decide) (by decide)))).other W8 (Or.inr (slot_ne (Or.inr (w81 hw)) (Or.inr (w124 hw)) (by decide) (t := (.object sN12)) (t' := .int) (by decide) (by decide))))
  have fc10 := ((Fw4.other W6 (Or.inr (slot_ne (Or.inr (w110 hw)) (Or.inr (w126 hw)) (by decide) (t := (.object sN3)) (t' := (.object sN3)) (by decide) (by decide)))).other W8 (Or.inr (slot_ne (Or.inr (w110 hw)) (Or.inr (w124 hw)) (by decide) (t := (.object sN3)) (t' := .int) (by decide) (by decide))))
  have fc11 := (Fw6.other W8 (Or.inr (slot_ne (Or.inr (w126 hw)) (Or.inr (w124 hw)) (by decide) (t := (.object sN3)) (t' := .int) (by decide) (by decide))))
  refine ⟨none, _, _, _, _, X8, (fun _ => rfl), ?_, by decide, by decide, fun fs hr => castTop (ef_50_RRRI m r1 w_BOOLEAN w_LIST (0 : Int32)) ?_⟩
  · show Q_rm50_0 Z r1 w_BOOLEAN w_LIST n0 h0 _ T8.heap _
    rw [e8]
    exact ⟨rfl, N8, KK8, fc9, fc10, Fw8, fc11⟩
  · show Steps p.tables e below (s₁.setTop (mkF m 0 #[.val (.ref r1), .val (.ref w_BOOLEAN), .val (.ref w_LIST), .val (.int (0 : Int32))] [])) _
    refine XS.aloadN X0.here hx rfl (hb hby d50_0) rfl rfl ?_
    refine st1 _ ?_
    refine XS.aloadN X1.here hx rfl (hb hby d50_4) rfl rfl ?_
    refine XS.aloadN X1.here hx rfl (hb hby d50_5) rfl rfl ?_
    refine st2 _ ?_
    refine XS.aloadN X2.here hx rfl (hb hby d50_9) rfl rfl ?_
    refine XS.aconstNull X2.here hx rfl (hb hby d50_10) ?_
    refine st4 _ ?_
    show Steps p.tables e below (T4.setTop (mkF m 14 #[.val (.ref r1), .val (.ref w_BOOLEAN), .val (.ref w_LIST), .val (.int (0 : Int32))] [])) _
    refine XS.aloadN X4.here hx rfl (hb hby d50_14) rfl rfl ?_
    refine XS.aloadN X4.here hx rfl (hb hby d50_15) rfl rfl ?_
    refine st6 _ ?_
    refine XS.aloadN X6.here hx rfl (hb hby d50_19) rfl rfl ?_
    refine XS.iloadN X6.here hx rfl (hb hby d50_20) rfl ?_
    refine st8 _ ?_
    exact X8.returnOut hx hret (hb hby d50_24) hr
theorem rm33_0 (l : Launch) (Z : State) (a0 : Array Value) (hw : own_HW a0 Z) (w_BOOLEAN : Addr) (r1 : Addr) (r2 : Addr) (k_r2 : ClassId) (r3 : Addr) (r4 : Addr) (w_LIST : Addr) (h0 : Heap) (n0 : Nat) (O0 : Old Z n0 h0) (P1 : Exa Z h0 r1 sN0) (P2 : Fld Z h0 r1 sN0 "size" "I" (.int (2 : Int32))) (P3 : Fld Z h0 r1 sN13 "modCount" "I" (.int (2 : Int32))) (P4 : Fld Z h0 r1 sN0 "elementData" sN4 (.ref r2)) (P5 : Arv Z h0 r2 k_r2 (.object sN1) (10 : Int32) [(.ref r3), (.ref r4), .null, .null, .null, .null, .null, .null, .null, .null] .null) (P6 : Exa Z h0 r2 sN4) (P7 : Exa Z h0 r3 sN2) (P8 : Fld Z h0 r3 sN2 "dataType" sN15 (.ref w_BOOLEAN)) (P9 : Fld Z h0 r3 sN2 "parts" sN10 .null) (P10 : Fld Z h0 r3 sN2 "size" "I" (.int (0 : Int32))) (P11 : Exa Z h0 r4 sN2) (P12 : Fld Z h0 r4 sN2 "dataType" sN15 (.ref w_BOOLEAN)) (P13 : Fld Z h0 r4 sN2 "parts" sN10 .null) (P14 : Fld Z h0 r4 sN2 "size" "I" (.int (0 : Int32))) (P15 : Sta Z Z.heap sN14 "EMPTY_LIST" sN34 (.ref w_LIST)) :
    own_Ct l Z yN15 prog_167_method_3_code 6 (some (.object sN2)) ({ frames := 8, cells := 6, slots := 18, locals := 128 } : Room) #[(.ref w_BOOLEAN), (.ref r1)] h0 (own_QJ Z (0 : Int32) n0 h0) := by
  refine own_enter (own := sN2) rfl (plainFor_of_name pn_23) ?_
  intro p e s m below meth c s₁ X0 hx hby hml hown hnm hret hZ e0
  have N0 := Fr.nil n0
  obtain ⟨T1, h1, X1, e1, E1, A1, D1, -, st1⟩ := newO X0 hx hZ hown (w252 hw) (w1 hw) (w2 hw) e0 (g := (mkF m 0 #[.val (.ref w_BOOLEAN), .val (.ref r1), .unset, .unset, .unset, .unset] [])) rfl (hb hby d33_0) (by decide) (by decide)
  obtain ⟨b1, gq1⟩ : ∃ z, z = h0.size := ⟨_, rfl⟩
  rw [← gq1] at A1 D1 st1
  have g_b1 : n0 ≤ b1 := Nat.le_trans ((O0.1 ▸ O0.2.1) : n0 ≤ h0.size) (Nat.le_of_eq gq1.symm)
  have sz_b1 : h0.size ≤ b1 := Nat.le_trans (Keep.refl h0 []).1 (Nat.le_of_eq gq1.symm)
  have KK1 : Keep h0 h1 [] := (Keep.refl h0 []).ext E1
  have O1 := O0.ext E1
  have F_modCount_b1 : Fld Z h1 b1 sN13 "modCount" "I" (.int (0 : Int32)) := D1 (Or.inl (w22 hw)) (ty := .int) (by decide)
  have F_elementData_b1 : Fld Z h1 b1 sN0 "elementData" sN4 .null := D1 (Or.inl (w25 hw)) (ty := (.array (.object sN1))) (by decide)
  have F_size_b1 : Fld Z h1 b1 sN0 "size" "I" (.int (0 : Int32)) := D1 (Or.inl (w41 hw)) (ty := .int) (by decide)
  obtain ⟨_, T2, L2, X2, hQ2, st2⟩ := own_cF X1 hx hZ hown (w111 hw) (w112 hw) (w113 hw) (w253 hw) (w254 hw) (w255 hw) (w256 hw) (w257 hw) (w2 hw) (w258 hw) (P1.ext E1) (rm34_0 l Z a0 hw r1 h1 n0 O1 (P2.ext E1)) e1 (hb hby d33_5) hml pd_15 [] [(.ref b1), (.ref b1)] (g := (mkF m 5 #[.val (.ref w_BOOLEAN), .val (.ref r1), .unset, .unset, .unset, .unset] [(.ref r1), (.ref b1), (.ref b1)]))
  obtain ⟨rfl, N2q, e2⟩ := hQ2
  have N2 := Fr.app N0 N2q
  obtain ⟨_, T3, L3, X3, hQ3, st3⟩ := own_cI X2 hx hZ hown rfl (w259 hw) (w260 hw) (w2 hw) (w261 hw) (rm35_0 l Z a0 hw b1 h1 n0 O1 A1 F_modCount_b1 F_elementData_b1 F_size_b1 g_b1) e2 (hb hby d33_10) hml pd_63 [(.int (2 : Int32))] [(.ref b1)] (g := (mkF m 10 #[.val (.ref w_BOOLEAN), .val (.ref r1), .unset, .unset, .unset, .unset] [(.int (2 : Int32)), (.ref b1), (.ref b1)]))
  obtain ⟨b3_0, kc3_0, rfl, N3q, K3, ge_b3_0, f3_0, f3_1, f3_2, f3_3, f3_4, ov3_4⟩ := hQ3
  have g_b3_0 : n0 ≤ b3_0 := Nat.le_trans ((O1.1 ▸ O1.2.1) : n0 ≤ h1.size) ge_b3_0
  have sz_b3_0 : h0.size ≤ b3_0 := Nat.le_trans KK1.1 ge_b3_0
  have KK3 : Keep h0 T3.heap [] := KK1.trans K3 (allS (Or.inr sz_b1) all0)
  have O3 := O1.keep K3 (allS g_b1 all0)
  have N3 := Fr.app N2 N3q
  have nz4 : r1 ≠ b1 := (Nat.ne_of_lt (Nat.lt_of_lt_of_le P1.lt (Nat.le_of_eq gq1.symm)))
  obtain ⟨_, T5, L5, X5, hQ5, st5⟩ := own_cF X3 hx hZ hown (w127 hw) (w128 hw) (w129 hw) (w262 hw) (w263 hw) (w264 hw) (w265 hw) (w257 hw) (w2 hw) (w266 hw) ((P1.ext E1).keep K3) (rm36_0 l Z a0 hw r1 T3.heap n0 O3 ((P3.ext E1).keep K3 (ninS nz4 nin0)) ((P1.ext E1).keep K3)) rfl (hb hby d33_17) hml pd_21 [] [] (g := (mkF m 17 #[.val (.ref w_BOOLEAN), .val (.ref r1), .val (.ref b1), .val (.int (0 : Int32)), .unset, .unset] [(.ref r1)]))
  obtain ⟨b5_0, rfl, N5q, K5, ge_b5_0, f5_0, f5_1, f5_2, f5_3, f5_4⟩ := hQ5
  have g_b5_0 : n0 ≤ b5_0 := Nat.le_trans ((O3.1 ▸ O3.2.1) : n0 ≤ T3.heap.size) ge_b5_0
  have sz_b5_0 : h0.size ≤ b5_0 := Nat.le_trans KK3.1 ge_b5_0
  have KK5 : Keep h0 T5.heap [] := KK3.trans K5 all0
  have O5 := O3.keep K5 all0
  have N5 := Fr.app N3 N5q
  have fc6 := (((P2.ext E1).keep K3 (ninS nz4 nin0)).keep K5 nin0)
  obtain ⟨_, T7, L7, X7, hQ7, st7⟩ := own_cF X5 hx hZ hown (w156 hw) (w157 hw) (w158 hw) (w282 hw) (w283 hw) (w284 hw) (w285 hw) (w286 hw) (w269 hw) (w287 hw) f5_0 (rm38_0 l Z a0 hw b5_0 r1 T5.heap n0 O5 f5_4 f5_1 fc6) rfl (hb hby d33_26) hml pd_5 [] [] (g := (mkF m 26 #[.val (.ref w_BOOLEAN), .val (.ref r1), .val (.ref b1), .val (.int (0 : Int32)), .val (.ref b5_0), .unset] [(.ref b5_0)]))
  obtain ⟨rfl, N7q, e7⟩ := hQ7
  have N7 := Fr.app N5 N7q
  have fc8 := (((P3.ext E1).keep K3 (ninS nz4 nin0)).keep K5 nin0)
  have fc9 := (((P4.ext E1).keep K3 (ninS nz4 nin0)).keep K5 nin0)
  have nz10 : r2 ≠ b1 := (ne_exa (P6.ext E1) A1 (by decide))
  have fc11 := (((P5.ext E1).keep K3 (ninS nz10 nin0)).keep K5 nin0)
  obtain ⟨_, T12, L12, X12, hQ12, st12⟩ := own_cF X7 hx hZ hown (w223 hw) (w224 hw) (w225 hw) (w291 hw) (w292 hw) (w293 hw) (w294 hw) (w286 hw) (w269 hw) (w295 hw) f5_0 (rm39_0 l Z a0 hw b5_0 r1 r2 r3 r4 k_r2 T5.heap n0 O5 f5_0 f5_1 fc8 f5_3 f5_4 fc6 fc9 fc11 f5_2 g_b5_0 (((P6.ext E1).keep K3).keep K5)) e7 (hb hby d33_36) hml pd_49 [] [] (g := (mkF m 36 #[.val (.ref w_BOOLEAN), .val (.ref r1), .val (.ref b1), .val (.int (0 : Int32)), .val (.ref b5_0), .unset] [(.ref b5_0)]))
  obtain ⟨rfl, N12q, K12, f12_0, f12_1, f12_2, f12_3⟩ := hQ12
  have KK12 : Keep h0 T12.heap [] := KK5.trans K12 (allS (Or.inr sz_b5_0) all0)
  have O12 := O5.keep K12 (allS g_b5_0 all0)
  have N12 := Fr.app N7 N12q
  have fc13 := ((((P7.ext E1).keep K3).keep K5).keep K12)
  obtain ⟨T14, X14, e14, st14⟩ := castY X12 hx hZ hown (w302 hw) rfl (Ins.self fc13) (g := (mkF m 41 #[.val (.ref w_BOOLEAN), .val (.ref r1), .val (.ref b1), .val (.int (0 : Int32)), .val (.ref b5_0), .unset] [(.ref r3)])) rfl rfl (hb hby d33_41)
  have nz15 : r3 ≠ b1 := (ne_exa (P7.ext E1) A1 (by decide))
  have nz16 : r3 ≠ b5_0 := (ne_exa (((P7.ext E1).keep K3).keep K5) f5_0 (by decide))
  have fc17 := ((((P8.ext E1).keep K3 (ninS nz15 nin0)).keep K5 nin0).keep K12 (ninS nz16 nin0))
  obtain ⟨T18, X18, e18, st18⟩ := getF X14 hx hZ hown (host := "") (Or.inl (w80 hw)) Via.refl e14 fc17 (g := (mkF m 48 #[.val (.ref w_BOOLEAN), .val (.ref r1), .val (.ref b1), .val (.int (0 : Int32)), .val (.ref b5_0), .val (.ref r3)] [(.ref r3)])) rfl rfl (hb hby d33_48)
  have fc19 := ((((P9.ext E1).keep K3 (ninS nz15 nin0)).keep K5 nin0).keep K12 (ninS nz16 nin0))
  obtain ⟨T20, X20, e20, st20⟩ := getF X18 hx hZ hown (host := "") (Or.inl (w125 hw)) Via.refl e18 fc19 (g := (mkF m 79 #[.val (.ref w_BOOLEAN), .val (.ref r1), .val (.ref b1), .val (.int (0 : Int32)), .val (.ref b5_0), .val (.ref r3)] [(.ref r3)])) rfl rfl (hb hby d33_79)
  have fc21 := ((((P10.ext E1).keep K3 (ninS nz15 nin0)).keep K5 nin0).keep K12 (ninS nz16 nin0))
  obtain ⟨_, T22, L22, X22, hQ22, st22⟩ := own_cV X20 hx hZ hown (notFace_of_selects (args := #[]) (mvT hZ (w307 hw))) (w304 hw) (w305 hw) (w307 hw) (w306 hw) (w66 hw) (w308 hw) fc13 (rm41_0 l Z a0 hw r3 T12.heap n0 O12 fc21) e20 (hb hby d33_102) hml pd_5 [] [] (g := (mkF m 102 #[.val (.ref w_BOOLEAN), .val (.ref r1), .val (.ref b1), .val (.int (0 : Int32)), .val (.ref b5_0), .val (.ref r3)] [(.ref r3)]))
  obtain ⟨rfl, N22q, e22⟩ := hQ22
  have N22 := Fr.app N12 N22q
  obtain ⟨T23, X23, e23, st23⟩ := getF X22 hx hZ hown (host := "") (Or.inl (w123 hw)) Via.refl e22 fc21 (g := (mkF m 120 #[.val (.ref w_BOOLEAN), .val (.ref r1), .val (.ref b1), .val (.int (0 : Int32)), .val (.ref b5_0), .val (.ref r3)] [(.ref r3), (.int (0 : Int32))])) rfl rfl (hb hby d33_120)
  have nz24 : r1 ≠ b5_0 := (ne_exa (((P1.ext E1).keep K3).keep K5) f5_0 (by decide))
  obtain ⟨_, T25, L25, X25, hQ25, st25⟩ := own_cF X23 hx hZ hown (w156 hw) (w157 hw) (w158 hw) (w282 hw) (w283 hw) (w284 hw) (w285 hw) (w286 hw) (w269 hw) (w287 hw) (f5_0.keep K12) (rm38_1 l Z a0 hw b5_0 r1 T12.heap n0 O12 f12_2 f12_0 (fc6.keep K12 (ninS nz24 nin0))) e23 (hb hby d33_26) hml pd_5 [] [] (g := (mkF m 26 #[.val (.ref w_BOOLEAN), .val (.ref r1), .val (.ref b1), .val (.int (0 : Int32)), .val (.ref b5_0), .val (.ref r3)] [(.ref b5_0)]))
  obtain ⟨rfl, N25q, e25⟩ := hQ25
  have N25 := Fr.app N22 N25q
  have nz26 : r2 ≠ b5_0 := (ne_exa (((P6.ext E1).keep K3).keep K5) f5_0 (by decide))
  have fc27 := ((((P6.ext E1).keep K3).keep K5).keep K12)
  obtain ⟨_, T28, L28, X28, hQ28, st28⟩ := own_cF X25 hx hZ hown (w223 hw) (w224 hw) (w225 hw) (w291 hw) (w292 hw) (w293 hw) (w294 hw) (w286 hw) (w269 hw) (w295 hw) (f5_0.keep K12) (rm39_1 l Z a0 hw b5_0 r1 r2 r3 r4 k_r2 T12.heap n0 O12 (f5_0.keep K12) f12_0 (fc8.keep K12 (ninS nz24 nin0)) f12_1 f12_2 (fc6.keep K12 (ninS nz24 nin0)) (fc9.keep K12 (ninS nz24 nin0)) (fc11.keep K12 (ninS nz26 nin0)) f12_3 g_b5_0 fc27) e25 (hb hby d33_36) hml pd_49 [] [] (g := (mkF m 36 #[.val (.ref w_BOOLEAN), .val (.ref r1), .val (.ref b1), .val (.int (0 : Int32)), .val (.ref b5_0), .val (.ref r3)] [(.ref b5_0)]))
  obtain ⟨rfl, N28q, K28, f28_0, f28_1, f28_2, f28_3⟩ := hQ28
  have KK28 : Keep h0 T28.heap [] := KK12.trans K28 (allS (Or.inr sz_b5_0) all0)
  have O28 := O12.keep K28 (allS g_b5_0 all0)
  have N28 := Fr.app N25 N28q
  have fc29 := (((((P11.ext E1).keep K3).keep K5).keep K12).keep K28)
  obtain ⟨T30, X30, e30, st30⟩ := castY X28 hx hZ hown (w302 hw) rfl (Ins.self fc29) (g := (mkF m 41 #[.val (.ref w_BOOLEAN), .val (.ref r1), .val (.ref b1), .val (.int (0 : Int32)), .val (.ref b5_0), .val (.ref r3)] [(.ref r4)])) rfl rfl (hb hby d33_41)
  have nz31 : r4 ≠ b1 := (ne_exa (P11.ext E1) A1 (by decide))
  have nz32 : r4 ≠ b5_0 := (ne_exa (((P11.ext E1).keep K3).keep K5) f5_0 (by decide))
  have fc33 := (((((P12.ext E1).keep K3 (ninS nz31 nin0)).keep K5 nin0).keep K12 (ninS nz32 nin0)).keep K28 (ninS nz32 nin0))
  obtain ⟨T34, X34, e34, st34⟩ := getF X30 hx hZ hown (host := "") (Or.inl (w80 hw)) Via.refl e30 fc33 (g := (mkF m 48 #[.val (.ref w_BOOLEAN), .val (.ref r1), .val (.ref b1), .val (.int (0 : Int32)), .val (.ref b5_0), .val (.ref r4)] [(.ref r4)])) rfl rfl (hb hby d33_48)
  have fc35 := (((((P13.ext E1).keep K3 (ninS nz31 nin0)).keep K5 nin0).keep K12 (ninS nz32 nin0)).keep K28 (ninS nz32 nin0))
  obtain ⟨T36, X36, e36, st36⟩ := getF X34 hx hZ hown (host := "") (Or.inl (w125 hw)) Via.refl e34 fc35 (g := (mkF m 79 #[.val (.ref w_BOOLEAN), .val (.ref r1), .val (.ref b1), .val (.int (0 : Int32)), .val (.ref b5_0), .val (.ref r4)] [(.ref r4)])) rfl rfl (hb hby d33_79)
  have fc37 := (((((P14.ext E1).keep K3 (ninS nz31 nin0)).keep K5 nin0).keep K12 (ninS nz32 nin0)).keep K28 (ninS nz32 nin0))
  obtain ⟨_, T38, L38, X38, hQ38, st38⟩ := own_cV X36 hx hZ hown (notFace_of_selects (args := #[]) (mvT hZ (w307 hw))) (w304 hw) (w305 hw) (w307 hw) (w306 hw) (w66 hw) (w308 hw) fc29 (rm41_0 l Z a0 hw r4 T28.heap n0 O28 fc37) e36 (hb hby d33_102) hml pd_5 [] [] (g := (mkF m 102 #[.val (.ref w_BOOLEAN), .val (.ref r1), .val (.ref b1), .val (.int (0 : Int32)), .val (.ref b5_0), .val (.ref r4)] [(.ref r4)]))
  obtain ⟨rfl, N38q, e38⟩ := hQ38
  have N38 := Fr.app N28 N38q
  obtain ⟨T39, X39, e39, st39⟩ := getF X38 hx hZ hown (host := "") (Or.inl (w123 hw)) Via.refl e38 fc37 (g := (mkF m 120 #[.val (.ref w_BOOLEAN), .val (.ref r1), .val (.ref b1), .val (.int (0 : Int32)), .val (.ref b5_0), .val (.ref r4)] [(.ref r4), (.int (0 : Int32))])) rfl rfl (hb hby d33_120)
  have fc40 := ((fc6.keep K12 (ninS nz24 nin0)).keep K28 (ninS nz24 nin0))
  obtain ⟨_, T41, L41, X41, hQ41, st41⟩ := own_cF X39 hx hZ hown (w156 hw) (w157 hw) (w158 hw) (w282 hw) (w283 hw) (w284 hw) (w285 hw) (w286 hw) (w269 hw) (w287 hw) ((f5_0.keep K12).keep K28) (rm38_2 l Z a0 hw b5_0 r1 T28.heap n0 O28 f28_2 f28_0 fc40) e39 (hb hby d33_26) hml pd_5 [] [] (g := (mkF m 26 #[.val (.ref w_BOOLEAN), .val (.ref r1), .val (.ref b1), .val (.int (0 : Int32)), .val (.ref b5_0), .val (.ref r4)] [(.ref b5_0)]))
  obtain ⟨rfl, N41q, e41⟩ := hQ41
  have N41 := Fr.app N38 N41q
  have fc42 := ((((A1.keep K3).keep K5).keep K12).keep K28)
  have nz43 : b1 ≠ b5_0 := (Nat.ne_of_lt (Nat.lt_of_lt_of_le (A1.keep K3).lt ge_b5_0))
  have fc44 := (((f3_2.keep K5 nin0).keep K12 (ninS nz43 nin0)).keep K28 (ninS nz43 nin0))
  obtain ⟨_, T45, L45, X45, hQ45, st45⟩ := own_cF X41 hx hZ hown (w111 hw) (w112 hw) (w113 hw) (w253 hw) (w254 hw) (w255 hw) (w256 hw) (w257 hw) (w2 hw) (w258 hw) fc42 (rm34_1 l Z a0 hw b1 T28.heap n0 O28 fc44) e41 (hb hby d33_129) hml pd_15 [] [] (g := (mkF m 129 #[.val (.ref w_BOOLEAN), .val (.ref r1), .val (.ref b1), .val (.int (0 : Int32)), .val (.ref b5_0), .val (.ref r4)] [(.ref b1)]))
  obtain ⟨rfl, N45q, e45⟩ := hQ45
  have N45 := Fr.app N41 N45q
  obtain ⟨T46, h46, X46, e46, E46, A46, D46, -, st46⟩ := newO X45 hx hZ hown (w302 hw) (w65 hw) (w66 hw) e45 (g := (mkF m 149 #[.val (.ref w_BOOLEAN), .val (.ref r1), .val (.ref b1), .val (.int (0 : Int32)), .val (.ref b5_0), .val (.ref r4)] [])) rfl (hb hby d33_149) (by decide) (by decide)
  obtain ⟨b46, gq46⟩ : ∃ z, z = T28.heap.size := ⟨_, rfl⟩
  rw [← gq46] at A46 D46 st46
  have g_b46 : n0 ≤ b46 := Nat.le_trans ((O28.1 ▸ O28.2.1) : n0 ≤ T28.heap.size) (Nat.le_of_eq gq46.symm)
  have sz_b46 : h0.size ≤ b46 := Nat.le_trans KK28.1 (Nat.le_of_eq gq46.symm)
  have KK46 : Keep h0 h46 [] := KK28.ext E46
  have O46 := O28.ext E46
  have F_dataType_b46 : Fld Z h46 b46 sN2 "dataType" sN15 .null := D46 (Or.inr (w81 hw)) (ty := (.object sN12)) (by decide)
  have F_values_b46 : Fld Z h46 b46 sN2 "values" sN10 .null := D46 (Or.inr (w110 hw)) (ty := (.object sN3)) (by decide)
  have F_size_b46 : Fld Z h46 b46 sN2 "size" "I" (.int (0 : Int32)) := D46 (Or.inr (w124 hw)) (ty := .int) (by decide)
  have F_parts_b46 : Fld Z h46 b46 sN2 "parts" sN10 .null := D46 (Or.inr (w126 hw)) (ty := (.object sN3)) (by decide)
  obtain ⟨_, T47, L47, X47, hQ47, st47⟩ := own_cS X46 hx hZ hown (w82 hw) (w83 hw) (w84 hw) (w85 hw) (rm13_0 l Z a0 hw b1 w_LIST h46 n0 O46 (fc42.ext E46) (fc44.ext E46) P15) e46 (hb hby d33_155) hml pd_11 [(.ref b1)] [(.ref w_BOOLEAN), (.ref b46), (.ref b46)] (g := (mkF m 155 #[.val (.ref w_BOOLEAN), .val (.ref r1), .val (.ref b1), .val (.int (0 : Int32)), .val (.ref b5_0), .val (.ref r4)] [(.ref b1), (.ref w_BOOLEAN), (.ref b46), (.ref b46)]))
  obtain ⟨rfl, N47q, e47⟩ := hQ47
  have N47 := Fr.app N45 N47q
  obtain ⟨_, T48, L48, X48, hQ48, st48⟩ := own_cI X47 hx hZ hown rfl (w370 hw) (w371 hw) (w66 hw) (w372 hw) (rm50_0 l Z a0 hw b46 w_BOOLEAN w_LIST h46 n0 O46 A46 F_dataType_b46 F_values_b46 F_size_b46 F_parts_b46 g_b46) e47 (hb hby d33_159) hml pd_73 [(.ref w_BOOLEAN), (.ref w_LIST), (.int (0 : Int32))] [(.ref b46)] (g := (mkF m 159 #[.val (.ref w_BOOLEAN), .val (.ref r1), .val (.ref b1), .val (.int (0 : Int32)), .val (.ref b5_0), .val (.ref r4)] [(.int (0 : Int32)), (.ref w_LIST), (.ref w_BOOLEAN), (.ref b46), (.ref b46)]))
  obtain ⟨rfl, N48q, K48, f48_0, f48_1, f48_2, f48_3⟩ := hQ48
  have KK48 : Keep h0 T48.heap [] := KK46.trans K48 (allS (Or.inr sz_b46) all0)
  have O48 := O46.keep K48 (allS g_b46 all0)
  have N48 := Fr.app N47 N48q
  refine ⟨(some (.ref b46)), _, _, _, _, X48, (fun h => nomatch h), ?_, by decide, by decide, fun fs hr => castTop (ef_33_RR m w_BOOLEAN r1) ?_⟩
  · show own_QJ Z (0 : Int32) n0 h0 _ T48.heap _
    exact ⟨b46, rfl, N48, KK48, (A46.keep K48), f48_2⟩
  · show Steps p.tables e below (s₁.setTop (mkF m 0 #[.val (.ref w_BOOLEAN), .val (.ref r1), .unset, .unset, .unset, .unset] [])) _
    refine st1 _ ?_
    refine XS.dup X1.here hx rfl (hb hby d33_3) rfl rfl ?_
    refine XS.aloadN X1.here hx rfl (hb hby d33_4) rfl rfl ?_
    refine st2 _ ?_
    refine st3 _ ?_
    refine XS.astoreN X3.here hx rfl (hb hby d33_13) rfl rfl (l' := #[.val (.ref w_BOOLEAN), .val (.ref r1), .val (.ref b1), .unset, .unset, .unset]) rfl ?_
    refine XS.iconst X3.here hx rfl (hb hby d33_14) ?_
    refine XS.istoreN X3.here hx rfl (hb hby d33_15) rfl (l' := #[.val (.ref w_BOOLEAN), .val (.ref r1), .val (.ref b1), .val (.int (0 : Int32)), .unset, .unset]) rfl ?_
    show Steps p.tables e below (T3.setTop (mkF m 16 #[.val (.ref w_BOOLEAN), .val (.ref r1), .val (.ref b1), .val (.int (0 : Int32)), .unset, .unset] [])) _
    refine XS.aloadN X3.here hx rfl (hb hby d33_16) rfl rfl ?_
    refine st5 _ ?_
    refine XS.astore X5.here hx rfl (hb hby d33_22) rfl rfl (l' := #[.val (.ref w_BOOLEAN), .val (.ref r1), .val (.ref b1), .val (.int (0 : Int32)), .val (.ref b5_0), .unset]) rfl ?_
    refine XS.aload X5.here hx rfl (hb hby d33_24) rfl rfl ?_
    refine st7 _ ?_
    refine XS.ifNo X7.here hx rfl (hb hby d33_31) rfl (by decide) ?_
    refine XS.aload X7.here hx rfl (hb hby d33_34) rfl rfl ?_
    refine st12 _ ?_
    show Steps p.tables e below (T12.setTop (mkF m 41 #[.val (.ref w_BOOLEAN), .val (.ref r1), .val (.ref b1), .val (.int (0 : Int32)), .val (.ref b5_0), .unset] [(.ref r3)])) _
    refine st14 _ ?_
    refine XS.astore X14.here hx rfl (hb hby d33_44) rfl rfl (l' := #[.val (.ref w_BOOLEAN), .val (.ref r1), .val (.ref b1), .val (.int (0 : Int32)), .val (.ref b5_0), .val (.ref r3)]) rfl ?_
    refine XS.aload X14.here hx rfl (hb hby d33_46) rfl rfl ?_
    refine st18 _ ?_
    refine XS.aloadN X18.here hx rfl (hb hby d33_51) rfl rfl ?_
    refine Jvm.RoadKit.acmp (g := (mkF m 52 #[.val (.ref w_BOOLEAN), .val (.ref r1), .val (.ref b1), .val (.int (0 : Int32)), .val (.ref b5_0), .val (.ref r3)] [(.ref w_BOOLEAN), (.ref w_BOOLEAN)])) X18 hx rfl rfl rfl (pc0 := 52) (pc' := 77) (same := true) rfl (hb hby d33_52) rfl (decide_eq_true rfl) (by decide) (by decide) ?_
    refine XS.aload X18.here hx rfl (hb hby d33_77) rfl rfl ?_
    refine st20 _ ?_
    show Steps p.tables e below (T20.setTop (mkF m 82 #[.val (.ref w_BOOLEAN), .val (.ref r1), .val (.ref b1), .val (.int (0 : Int32)), .val (.ref b5_0), .val (.ref r3)] [.null])) _
    refine XS.ifnullYes X20.here hx rfl (pc0 := 82) (pc' := 100) rfl (hb hby d33_82) rfl (by decide) (by decide) ?_
    refine XS.aload X20.here hx rfl (hb hby d33_100) rfl rfl ?_
    refine st22 _ ?_
    refine XS.ifYes X22.here hx rfl (pc0 := 105) (pc' := 117) rfl (hb hby d33_105) rfl (by decide) (by decide) (by decide) ?_
    refine XS.iloadN X22.here hx rfl (hb hby d33_117) rfl ?_
    refine XS.aload X22.here hx rfl (hb hby d33_118) rfl rfl ?_
    refine st23 _ ?_
    refine XS.iadd X23.here hx rfl (hb hby d33_123) rfl ?_
    show Steps p.tables e below (T23.setTop (mkF m 124 #[.val (.ref w_BOOLEAN), .val (.ref r1), .val (.ref b1), .val (.int (0 : Int32)), .val (.ref b5_0), .val (.ref r3)] [(.int ((0 : Int32) + (0 : Int32)))])) _
    rw [fo_3]
    refine XS.istoreN X23.here hx rfl (hb hby d33_124) rfl (l' := #[.val (.ref w_BOOLEAN), .val (.ref r1), .val (.ref b1), .val (.int (0 : Int32)), .val (.ref b5_0), .val (.ref r3)]) rfl ?_
    refine XS.goto X23.here hx rfl (pc0 := 125) (pc' := 24) rfl (hb hby d33_125) (by decide) (by decide) ?_
    refine XS.aload X23.here hx rfl (hb hby d33_24) rfl rfl ?_
    refine st25 _ ?_
    refine XS.ifNo X25.here hx rfl (hb hby d33_31) rfl (by decide) ?_
    refine XS.aload X25.here hx rfl (hb hby d33_34) rfl rfl ?_
    refine st28 _ ?_
    show Steps p.tables e below (T28.setTop (mkF m 41 #[.val (.ref w_BOOLEAN), .val (.ref r1), .val (.ref b1), .val (.int (0 : Int32)), .val (.ref b5_0), .val (.ref r3)] [(.ref r4)])) _
    refine st30 _ ?_
    refine XS.astore X30.here hx rfl (hb hby d33_44) rfl rfl (l' := #[.val (.ref w_BOOLEAN), .val (.ref r1), .val (.ref b1), .val (.int (0 : Int32)), .val (.ref b5_0), .val (.ref r4)]) rfl ?_
    refine XS.aload X30.here hx rfl (hb hby d33_46) rfl rfl ?_
    refine st34 _ ?_
    refine XS.aloadN X34.here hx rfl (hb hby d33_51) rfl rfl ?_
    refine Jvm.RoadKit.acmp (g := (mkF m 52 #[.val (.ref w_BOOLEAN), .val (.ref r1), .val (.ref b1), .val (.int (0 : Int32)), .val (.ref b5_0), .val (.ref r4)] [(.ref w_BOOLEAN), (.ref w_BOOLEAN)])) X34 hx rfl rfl rfl (pc0 := 52) (pc' := 77) (same := true) rfl (hb hby d33_52) rfl (decide_eq_true rfl) (by decide) (by decide) ?_
    refine XS.aload X34.here hx rfl (hb hby d33_77) rfl rfl ?_
    refine st36 _ ?_
    show Steps p.tables e below (T36.setTop (mkF m 82 #[.val (.ref w_BOOLEAN), .val (.ref r1), .val (.ref b1), .val (.int (0 : Int32)), .val (.ref b5_0), .val (.ref r4)] [.null])) _
    refine XS.ifnullYes X36.here hx rfl (pc0 := 82) (pc' := 100) rfl (hb hby d33_82) rfl (by decide) (by decide) ?_
    refine XS.aload X36.here hx rfl (hb hby d33_100) rfl rfl ?_
    refine st38 _ ?_
    refine XS.ifYes X38.here hx rfl (pc0 := 105) (pc' := 117) rfl (hb hby d33_105) rfl (by decide) (by decide) (by decide) ?_
    refine XS.iloadN X38.here hx rfl (hb hby d33_117) rfl ?_
    refine XS.aload X38.here hx rfl (hb hby d33_118) rfl rfl ?_
    refine st39 _ ?_
    refine XS.iadd X39.here hx rfl (hb hby d33_123) rfl ?_
    show Steps p.tables e below (T39.setTop (mkF m 124 #[.val (.ref w_BOOLEAN), .val (.ref r1), .val (.ref b1), .val (.int (0 : Int32)), .val (.ref b5_0), .val (.ref r4)] [(.int ((0 : Int32) + (0 : Int32)))])) _
    rw [fo_3]
    refine XS.istoreN X39.here hx rfl (hb hby d33_124) rfl (l' := #[.val (.ref w_BOOLEAN), .val (.ref r1), .val (.ref b1), .val (.int (0 : Int32)), .val (.ref b5_0), .val (.ref r4)]) rfl ?_
    refine XS.goto X39.here hx rfl (pc0 := 125) (pc' := 24) rfl (hb hby d33_125) (by decide) (by decide) ?_
    refine XS.aload X39.here hx rfl (hb hby d33_24) rfl rfl ?_
    refine st41 _ ?_
    refine XS.ifYes X41.here hx rfl (pc0 := 31) (pc' := 128) rfl (hb hby d33_31) rfl (by decide) (by decide) (by decide) ?_
    refine XS.aloadN X41.here hx rfl (hb hby d33_128) rfl rfl ?_
    refine st45 _ ?_
    show Steps p.tables e below (T45.setTop (mkF m 134 #[.val (.ref w_BOOLEAN), .val (.ref r1), .val (.ref b1), .val (.int (0 : Int32)), .val (.ref b5_0), .val (.ref r4)] [(.int (0 : Int32))])) _
    refine XS.iconst X45.here hx rfl (hb hby d33_134) ?_
    refine XS.icmpYes X45.here hx rfl (pc0 := 135) (pc' := 149) rfl (hb hby d33_135) rfl (by decide) (by decide) (by decide) ?_
    refine st46 _ ?_
    refine XS.dup X46.here hx rfl (hb hby d33_152) rfl rfl ?_
    refine XS.aloadN X46.here hx rfl (hb hby d33_153) rfl rfl ?_
    refine XS.aloadN X46.here hx rfl (hb hby d33_154) rfl rfl ?_
    refine st47 _ ?_
    refine XS.iloadN X47.here hx rfl (hb hby d33_158) rfl ?_
    show Steps p.tables e below (T47.setTop (mkF m 159 #[.val (.ref w_BOOLEAN), .val (.ref r1), .val (.ref b1), .val (.int (0 : Int32)), .val (.ref b5_0), .val (.ref r4)] [(.int (0 : Int32)), (.ref w_LIST), (.ref w_BOOLEAN), (.ref b46), (.ref b46)])) _
    refine st48 _ ?_
    exact retA X48 hx hret rfl rfl rfl (hb hby d33_162) hr
theorem rm41_1 (l : Launch) (Z : State) (a0 : Array Value) (hw : own_HW a0 Z) (r1 : Addr) (p2 : Int32) (h0 : Heap) (n0 : Nat) (O0 : Old Z n0 h0) (P1 : Fld Z h0 r1 sN2 "size" "I" (.int p2)) (P2 : ¬ (p2 = (0 : Int32))) :
    own_Ct l Z yN7 prog_167_method_8_code 1 (some .boolean) ({ frames := 0, cells := 0, slots := 0, locals := 0 } : Room) #[(.ref r1)] h0 (own_QP (some (.int (0 : Int32))) n0 h0) := by
  refine own_enter (own := sN2) rfl (plainFor_of_name pn_23) ?_
  intro p e s m below meth c s₁ X0 hx hby hml hown hnm hret hZ e0
  have N0 := Fr.nil n0
  obtain ⟨T1, X1, e1, st1⟩ := getF X0 hx hZ hown (host := "") (Or.inl (w123 hw)) Via.refl e0 P1 (g := (mkF m 1 #[.val (.ref r1)] [(.ref r1)])) rfl rfl (hb hby d41_1)
  refine ⟨(some (.int (0 : Int32))), _, _, _, _, X1, (fun h => nomatch h), ?_, by decide, by decide, fun fs hr => castTop (ef_41_R m r1) ?_⟩
  · show own_QP (some (.int (0 : Int32))) n0 h0 _ T1.heap _
    rw [e1]
    exact ⟨rfl, N0, rfl⟩
  · show Steps p.tables e below (s₁.setTop (mkF m 0 #[.val (.ref r1)] [])) _
    refine XS.aloadN X0.here hx rfl (hb hby d41_0) rfl rfl ?_
    refine st1 _ ?_
    refine XS.ifYes X1.here hx rfl (pc0 := 4) (pc' := 11) rfl (hb hby d41_4) rfl ((if0 _ _).trans (feq P2).2) (by decide) (by decide) ?_
    refine XS.iconst X1.here hx rfl (hb hby d41_11) ?_
    exact retN X1 hx (t := .boolean) hret (by simp) (hb hby d41_12) hr
def Q_rm7_0 (Z : State) (r1 : Addr) (r2 : Addr) (r3 : Addr) (k_r3 : ClassId) (n0 : Nat) (h0 : Heap) (v : Option Value) (h : Heap) (L : List Loc) : Prop := v = none ∧ Fr n0 L ∧ Keep h0 h [r3, r1] ∧ Arv Z h r3 k_r3 (.object sN1) (2 : Int32) [(.ref r2), .null] .null ∧ Ovr Z k_r3 sN1 ∧ Fld Z h r1 sN13 "modCount" "I" (.int (1 : Int32)) ∧ Fld Z h r1 sN0 "elementData" sN4 (.ref r3) ∧ Fld Z h r1 sN0 "size" "I" (.int (1 : Int32))
theorem rm7_0 (l : Launch) (Z : State) (a0 : Array Value) (hw : own_HW a0 Z) (r1 : Addr) (r2 : Addr) (r3 : Addr) (k_r3 : ClassId) (h0 : Heap) (n0 : Nat) (O0 : Old Z n0 h0) (P1 : Ovr Z k_r3 sN1) (P2 : Arv Z h0 r3 k_r3 (.object sN1) (2 : Int32) [.null, .null] .null) (P3 : Exa Z h0 r2 sN2) (P4 : n0 ≤ r3) (P5 : Fld Z h0 r1 sN13 "modCount" "I" (.int (1 : Int32))) (P6 : Exa Z h0 r1 sN0) (P7 : Exa Z h0 r3 sN4) (P8 : Fld Z h0 r1 sN0 "elementData" sN4 (.ref r3)) (P9 : Fld Z h0 r1 sN0 "size" "I" (.int (0 : Int32))) (P10 : n0 ≤ r1) :
    own_Ct l Z yN3 jdk_38_method_24_code 4 none ({ frames := 0, cells := 0, slots := 0, locals := 0 } : Room) #[(.ref r1), (.ref r2), (.ref r3), (.int (0 : Int32))] h0 (Q_rm7_0 Z r1 r2 r3 k_r3 n0 h0) := by
  refine own_enter (own := sN0) rfl (plainFor_of_name pn_3) ?_
  intro p e s m below meth c s₁ X0 hx hby hml hown hnm hret hZ e0
  have N0 := Fr.nil n0
  obtain ⟨cl1, Ar1, -, Sr1, Nr1, -, -⟩ := id P2
  obtain ⟨cl2, Ar2, qr2, Sr2, Nr2, Hr2, Gr2⟩ := id P2
  have hin2 : ¬ ((0 : Int32) < 0 ∨ cl2.slots.size ≤ ((0 : Int32) : Int32).toNatClampNeg) := inb_of Sr2 ⟨by decide, by decide⟩
  obtain ⟨T3, h3, X3, e3, W3, st3⟩ := stR X0 hx hZ e0 Ar2 (j := (0 : Int32)) hin2 rfl (Sto.ofV Ar2 qr2 P1 (Ins.of_exa P3 (w248 hw))) (g := (mkF m 14 #[.val (.ref r1), .val (.ref r2), .val (.ref r3), .val (.int (0 : Int32))] [(.ref r2), (.int (0 : Int32)), (.ref r3)])) rfl rfl (hb hby d7_14)
  have V3 : Arv Z h3 r3 k_r3 (.object sN1) (2 : Int32) [(.ref r2), .null] .null := Arv.set Ar2 qr2 Sr2 Nr2 Hr2 Gr2 rfl W3 0 rfl (Nat.le_of_ble_eq_true rfl)
  have KK3 : Keep h0 h3 [r3, r1] := (Keep.refl h0 [r3, r1]).wr W3 (Or.inl (List.mem_of_getElem? (i := 0) rfl))
  have O3 := O0.wr W3 P4
  have N3 := Fr.snoc X3 N0 P4
  have nz4 : r1 ≠ r3 := (ne_exa P6 P7 (by decide))
  obtain ⟨T5, h5, X5, e5, W5, st5⟩ := putF X3 hx hZ hown (host := "") (Or.inl (w40 hw)) Via.refl e3 (P9.other W3 (Or.inl nz4)) (P6.wr W3) (Or.inl (w41 hw)) (w1 hw) (ty := .int) (by decide) rfl rfl (g := (mkF m 19 #[.val (.ref r1), .val (.ref r2), .val (.ref r3), .val (.int (0 : Int32))] [(.int (1 : Int32)), (.ref r1)])) rfl rfl (hb hby d7_19)
  have Fw5 := (P9.other W3 (Or.inl nz4)).same W5
  have KK5 : Keep h0 h5 [r3, r1] := KK3.wr W5 (Or.inl (List.mem_of_getElem? (i := 1) rfl))
  have O5 := O3.wr W5 P10
  have N5 := Fr.snoc X5 N3 P10
  have fc6 := ((P5.other W3 (Or.inl nz4)).other W5 (Or.inr (slot_ne (Or.inl (w22 hw)) (Or.inl (w41 hw)) (by decide) (t := .int) (t' := .int) (by decide) (by decide))))
  have fc7 := ((P8.other W3 (Or.inl nz4)).other W5 (Or.inr (slot_ne (Or.inl (w25 hw)) (Or.inl (w41 hw)) (by decide) (t := (.array (.object sN1))) (t' := .int) (by decide) (by decide))))
  refine ⟨none, _, _, _, _, X5, (fun _ => rfl), ?_, by decide, by decide, fun fs hr => castTop (ef_7_RRRI m r1 r2 r3 (0 : Int32)) ?_⟩
  · show Q_rm7_0 Z r1 r2 r3 k_r3 n0 h0 _ T5.heap _
    rw [e5]
    exact ⟨rfl, N5, KK5, (V3.other W5 nz4.symm), P1, fc6, fc7, Fw5⟩
  · show Steps p.tables e below (s₁.setTop (mkF m 0 #[.val (.ref r1), .val (.ref r2), .val (.ref r3), .val (.int (0 : Int32))] [])) _
    refine XS.iloadN X0.here hx rfl (hb hby d7_0) rfl ?_
    refine XS.aloadN X0.here hx rfl (hb hby d7_1) rfl rfl ?_
    refine X0.arraylength hx (by rw [e0]; exact Ar1.1) (State.isArrayOf_alike hZ.alike Ar1.2.1) (g := (mkF m 2 #[.val (.ref r1), .val (.ref r2), .val (.ref r3), .val (.int (0 : Int32))] [(.ref r3), (.int (0 : Int32))])) rfl rfl (hb hby d7_2) _ ?_
    rw [len_of Sr1 Nr1]
    refine XS.icmpYes X0.here hx rfl (pc0 := 3) (pc' := 11) rfl (hb hby d7_3) rfl (by decide) (by decide) (by decide) ?_
    refine XS.aloadN X0.here hx rfl (hb hby d7_11) rfl rfl ?_
    refine XS.iloadN X0.here hx rfl (hb hby d7_12) rfl ?_
    refine XS.aloadN X0.here hx rfl (hb hby d7_13) rfl rfl ?_
    refine st3 _ ?_
    show Steps p.tables e below (T3.setTop (mkF m 15 #[.val (.ref r1), .val (.ref r2), .val (.ref r3), .val (.int (0 : Int32))] [])) _
    refine XS.aloadN X3.here hx rfl (hb hby d7_15) rfl rfl ?_
    refine XS.iloadN X3.here hx rfl (hb hby d7_16) rfl ?_
    refine XS.iconst X3.here hx rfl (hb hby d7_17) ?_
    refine XS.iadd X3.here hx rfl (hb hby d7_18) rfl ?_
    show Steps p.tables e below (T3.setTop (mkF m 19 #[.val (.ref r1), .val (.ref r2), .val (.ref r3), .val (.int (0 : Int32))] [(.int ((0 : Int32) + (1 : Int32))), (.ref r1)])) _
    rw [fo_0]
    refine st5 _ ?_
    exact X5.returnOut hx hret (hb hby d7_22) hr
def Q_rm6_0 (Z : State) (r1 : Addr) (r2 : Addr) (r3 : Addr) (k_r3 : ClassId) (n0 : Nat) (h0 : Heap) (v : Option Value) (h : Heap) (L : List Loc) : Prop := v = (some (.int (1 : Int32))) ∧ Fr n0 L ∧ Keep h0 h [r1, r3] ∧ Arv Z h r3 k_r3 (.object sN1) (2 : Int32) [(.ref r2), .null] .null ∧ Ovr Z k_r3 sN1 ∧ Fld Z h r1 sN13 "modCount" "I" (.int (1 : Int32)) ∧ Fld Z h r1 sN0 "elementData" sN4 (.ref r3) ∧ Fld Z h r1 sN0 "size" "I" (.int (1 : Int32))
theorem rm6_0 (l : Launch) (Z : State) (a0 : Array Value) (hw : own_HW a0 Z) (r1 : Addr) (r2 : Addr) (r3 : Addr) (k_r3 : ClassId) (h0 : Heap) (n0 : Nat) (O0 : Old Z n0 h0) (P1 : Fld Z h0 r1 sN13 "modCount" "I" (.int (0 : Int32))) (P2 : Exa Z h0 r1 sN0) (P3 : Fld Z h0 r1 sN0 "elementData" sN4 (.ref r3)) (P4 : Fld Z h0 r1 sN0 "size" "I" (.int (0 : Int32))) (P5 : n0 ≤ r1) (P6 : Ovr Z k_r3 sN1) (P7 : Arv Z h0 r3 k_r3 (.object sN1) (2 : Int32) [.null, .null] .null) (P8 : Exa Z h0 r3 sN4) (P9 : Exa Z h0 r2 sN2) (P10 : n0 ≤ r3) :
    own_Ct l Z yN1 jdk_38_method_25_code 2 (some .boolean) ({ frames := 1, cells := 0, slots := 0, locals := 15 } : Room) #[(.ref r1), (.ref r2)] h0 (Q_rm6_0 Z r1 r2 r3 k_r3 n0 h0) := by
  refine own_enter (own := sN0) rfl (plainFor_of_name pn_3) ?_
  intro p e s m below meth c s₁ X0 hx hby hml hown hnm hret hZ e0
  have N0 := Fr.nil n0
  obtain ⟨T1, X1, e1, st1⟩ := getF X0 hx hZ hown (host := "") (Or.inl (w38 hw)) (Via.of (w39 hw)) e0 P1 (g := (mkF m 2 #[.val (.ref r1), .val (.ref r2)] [(.ref r1), (.ref r1)])) rfl rfl (hb hby d6_2)
  obtain ⟨T2, h2, X2, e2, W2, st2⟩ := putF X1 hx hZ hown (host := "") (Or.inl (w38 hw)) (Via.of (w39 hw)) e1 P1 P2 (Or.inl (w22 hw)) (w1 hw) (ty := .int) (by decide) rfl rfl (g := (mkF m 7 #[.val (.ref r1), .val (.ref r2)] [(.int (1 : Int32)), (.ref r1)])) rfl rfl (hb hby d6_7)
  have Fw2 := P1.same W2
  have KK2 : Keep h0 h2 [r1, r3] := (Keep.refl h0 [r1, r3]).wr W2 (Or.inl (List.mem_of_getElem? (i := 0) rfl))
  have O2 := O0.wr W2 P5
  have N2 := Fr.snoc X2 N0 P5
  have fc3 := (P3.other W2 (Or.inr (slot_ne (Or.inl (w25 hw)) (Or.inl (w22 hw)) (by decide) (t := (.array (.object sN1))) (t' := .int) (by decide) (by decide))))
  obtain ⟨T4, X4, e4, st4⟩ := getF X2 hx hZ hown (host := "") (Or.inl (w24 hw)) Via.refl e2 fc3 (g := (mkF m 13 #[.val (.ref r1), .val (.ref r2)] [(.ref r1), (.ref r2), (.ref r1)])) rfl rfl (hb hby d6_13)
  have fc5 := (P4.other W2 (Or.inr (slot_ne (Or.inl (w41 hw)) (Or.inl (w22 hw)) (by decide) (t := .int) (t' := .int) (by decide) (by decide))))
  obtain ⟨T6, X6, e6, st6⟩ := getF X4 hx hZ hown (host := "") (Or.inl (w40 hw)) Via.refl e4 fc5 (g := (mkF m 17 #[.val (.ref r1), .val (.ref r2)] [(.ref r1), (.ref r3), (.ref r2), (.ref r1)])) rfl rfl (hb hby d6_17)
  have nz7 : r3 ≠ r1 := (ne_exa P8 P2 (by decide))
  obtain ⟨_, T8, L8, X8, hQ8, st8⟩ := own_cP X6 hx hZ hown (w42 hw) (w43 hw) (w45 hw) (w44 hw) (w2 hw) (w46 hw) (P2.wr W2) (rm7_0 l Z a0 hw r1 r2 r3 k_r3 h2 n0 O2 P6 (P7.other W2 nz7) (P9.wr W2) P10 Fw2 (P2.wr W2) (P8.wr W2) fc3 fc5 P5) e6 (hb hby d6_20) hml pd_76 [(.ref r2), (.ref r3), (.int (0 : Int32))] [] (g := (mkF m 20 #[.val (.ref r1), .val (.ref r2)] [(.int (0 : Int32)), (.ref r3), (.ref r2), (.ref r1)]))
  obtain ⟨rfl, N8q, K8, f8_0, ov8_0, f8_1, f8_2, f8_3⟩ := hQ8
  have KK8 : Keep h0 T8.heap [r1, r3] := KK2.trans K8 (allS (Or.inl (List.mem_of_getElem? (i := 1) rfl)) (allS (Or.inl (List.mem_of_getElem? (i := 0) rfl)) all0))
  have O8 := O2.keep K8 (allS P10 (allS P5 all0))
  have N8 := Fr.app N2 N8q
  refine ⟨(some (.int (1 : Int32))), _, _, _, _, X8, (fun h => nomatch h), ?_, by decide, by decide, fun fs hr => castTop (ef_6_RR m r1 r2) ?_⟩
  · show Q_rm6_0 Z r1 r2 r3 k_r3 n0 h0 _ T8.heap _
    exact ⟨rfl, N8, KK8, f8_0, ov8_0, f8_1, f8_2, f8_3⟩
  · show Steps p.tables e below (s₁.setTop (mkF m 0 #[.val (.ref r1), .val (.ref r2)] [])) _
    refine XS.aloadN X0.here hx rfl (hb hby d6_0) rfl rfl ?_
    refine XS.dup X0.here hx rfl (hb hby d6_1) rfl rfl ?_
    refine st1 _ ?_
    refine XS.iconst X1.here hx rfl (hb hby d6_5) ?_
    refine XS.iadd X1.here hx rfl (hb hby d6_6) rfl ?_
    show Steps p.tables e below (T1.setTop (mkF m 7 #[.val (.ref r1), .val (.ref r2)] [(.int ((0 : Int32) + (1 : Int32))), (.ref r1)])) _
    rw [fo_0]
    refine st2 _ ?_
    refine XS.aloadN X2.here hx rfl (hb hby d6_10) rfl rfl ?_
    refine XS.aloadN X2.here hx rfl (hb hby d6_11) rfl rfl ?_
    refine XS.aloadN X2.here hx rfl (hb hby d6_12) rfl rfl ?_
    refine st4 _ ?_
    refine XS.aloadN X4.here hx rfl (hb hby d6_16) rfl rfl ?_
    refine st6 _ ?_
    show Steps p.tables e below (T6.setTop (mkF m 20 #[.val (.ref r1), .val (.ref r2)] [(.int (0 : Int32)), (.ref r3), (.ref r2), (.ref r1)])) _
    refine st8 _ ?_
    refine XS.iconst X8.here hx rfl (hb hby d6_23) ?_
    exact retN X8 hx (t := .boolean) hret (by simp) (hb hby d6_24) hr
theorem rm34_2 (l : Launch) (Z : State) (a0 : Array Value) (hw : own_HW a0 Z) (r1 : Addr) (h0 : Heap) (n0 : Nat) (O0 : Old Z n0 h0) (P1 : Fld Z h0 r1 sN0 "size" "I" (.int (1 : Int32))) :
    own_Ct l Z yN24 jdk_38_method_8_code 1 (some .int) ({ frames := 0, cells := 0, slots := 0, locals := 0 } : Room) #[(.ref r1)] h0 (own_QP (some (.int (1 : Int32))) n0 h0) := by
  refine own_enter (own := sN0) rfl (plainFor_of_name pn_3) ?_
  intro p e s m below meth c s₁ X0 hx hby hml hown hnm hret hZ e0
  have N0 := Fr.nil n0
  obtain ⟨T1, X1, e1, st1⟩ := getF X0 hx hZ hown (host := "") (Or.inl (w40 hw)) Via.refl e0 P1 (g := (mkF m 1 #[.val (.ref r1)] [(.ref r1)])) rfl rfl (hb hby d34_1)
  refine ⟨(some (.int (1 : Int32))), _, _, _, _, X1, (fun h => nomatch h), ?_, by decide, by decide, fun fs hr => castTop (ef_34_R m r1) ?_⟩
  · show own_QP (some (.int (1 : Int32))) n0 h0 _ T1.heap _
    rw [e1]
    exact ⟨rfl, N0, rfl⟩
  · show Steps p.tables e below (s₁.setTop (mkF m 0 #[.val (.ref r1)] [])) _
    refine XS.aloadN X0.here hx rfl (hb hby d34_0) rfl rfl ?_
    refine st1 _ ?_
    exact retI X1 hx hret (hb hby d34_4) hr
theorem rm44_0 (l : Launch) (Z : State) (a0 : Array Value) (hw : own_HW a0 Z)  (h0 : Heap) (n0 : Nat) (O0 : Old Z n0 h0)  :
    own_Ct l Z yN54 jdk_41_method_11_code 3 (some .int) ({ frames := 0, cells := 0, slots := 0, locals := 0 } : Room) #[(.int (0 : Int32)), (.int (1 : Int32)), .null] h0 (own_QP (some (.int (0 : Int32))) n0 h0) := by
  refine own_enter (own := sN61) rfl (plainFor_of_name pn_79) ?_
  intro p e s m below meth c s₁ X0 hx hby hml hown hnm hret hZ e0
  have N0 := Fr.nil n0
  refine ⟨(some (.int (0 : Int32))), _, _, _, _, X0, (fun h => nomatch h), ?_, by decide, by decide, fun fs hr => castTop (ef_44_IIN m (0 : Int32) (1 : Int32)) ?_⟩
  · show own_QP (some (.int (0 : Int32))) n0 h0 _ s₁.heap _
    rw [e0]
    exact ⟨rfl, N0, rfl⟩
  · show Steps p.tables e below (s₁.setTop (mkF m 0 #[.val (.int (0 : Int32)), .val (.int (1 : Int32)), .val .null] [])) _
    refine XS.iloadN X0.here hx rfl (hb hby d44_0) rfl ?_
    refine XS.ifNo X0.here hx rfl (hb hby d44_1) rfl (by decide) ?_
    refine XS.iloadN X0.here hx rfl (hb hby d44_4) rfl ?_
    refine XS.iloadN X0.here hx rfl (hb hby d44_5) rfl ?_
    refine XS.icmpYes X0.here hx rfl (pc0 := 6) (pc' := 16) rfl (hb hby d44_6) rfl (by decide) (by decide) (by decide) ?_
    refine XS.iloadN X0.here hx rfl (hb hby d44_16) rfl ?_
    exact retI X0 hx hret (hb hby d44_17) hr
theorem rm43_0 (l : Launch) (Z : State) (a0 : Array Value) (hw : own_HW a0 Z)  (h0 : Heap) (n0 : Nat) (O0 : Old Z n0 h0)  :
    own_Ct l Z yN53 jdk_31_method_17_code 2 (some .int) ({ frames := 1, cells := 0, slots := 0, locals := 14 } : Room) #[(.int (0 : Int32)), (.int (1 : Int32))] h0 (own_QP (some (.int (0 : Int32))) n0 h0) := by
  refine own_enter (own := sN25) rfl (plainFor_of_name pn_0) ?_
  intro p e s m below meth c s₁ X0 hx hby hml hown hnm hret hZ e0
  have N0 := Fr.nil n0
  obtain ⟨_, T1, L1, X1, hQ1, st1⟩ := own_cS X0 hx hZ hown (w324 hw) (w325 hw) (w326 hw) (w327 hw) (rm44_0 l Z a0 hw  h0 n0 O0 ) e0 (hb hby d43_3) hml pd_81 [(.int (0 : Int32)), (.int (1 : Int32)), .null] [] (g := (mkF m 3 #[.val (.int (0 : Int32)), .val (.int (1 : Int32))] [.null, (.int (1 : Int32)), (.int (0 : Int32))]))
  obtain ⟨rfl, N1q, e1⟩ := hQ1
  have N1 := Fr.app N0 N1q
  refine ⟨(some (.int (0 : Int32))), _, _, _, _, X1, (fun h => nomatch h), ?_, by decide, by decide, fun fs hr => castTop (ef_43_II m (0 : Int32) (1 : Int32)) ?_⟩
  · show own_QP (some (.int (0 : Int32))) n0 h0 _ T1.heap _
    rw [e1]
    exact ⟨rfl, N1, rfl⟩
  · show Steps p.tables e below (s₁.setTop (mkF m 0 #[.val (.int (0 : Int32)), .val (.int (1 : Int32))] [])) _
    refine XS.iloadN X0.here hx rfl (hb hby d43_0) rfl ?_
    refine XS.iloadN X0.here hx rfl (hb hby d43_1) rfl ?_
    refine XS.aconstNull X0.here hx rfl (hb hby d43_2) ?_
    refine st1 _ ?_
    exact retI X1 hx hret (hb hby d43_6) hr
theorem rm45_0 (l : Launch) (Z : State) (a0 : Array Value) (hw : own_HW a0 Z) (r1 : Addr) (r2 : Addr) (r3 : Addr) (k_r2 : ClassId) (h0 : Heap) (n0 : Nat) (O0 : Old Z n0 h0) (P1 : Fld Z h0 r1 sN0 "elementData" sN4 (.ref r2)) (P2 : Ovr Z k_r2 sN1) (P3 : Arv Z h0 r2 k_r2 (.object sN1) (2 : Int32) [(.ref r3), .null] .null) :
    own_Ct l Z yN27 jdk_38_method_18_code 2 (some (.object sN1)) ({ frames := 0, cells := 0, slots := 0, locals := 0 } : Room) #[(.ref r1), (.int (0 : Int32))] h0 (own_QP (some (.ref r3)) n0 h0) := by
  refine own_enter (own := sN0) rfl (plainFor_of_name pn_3) ?_
  intro p e s m below meth c s₁ X0 hx hby hml hown hnm hret hZ e0
  have N0 := Fr.nil n0
  obtain ⟨T1, X1, e1, st1⟩ := getF X0 hx hZ hown (host := "") (Or.inl (w24 hw)) Via.refl e0 P1 (g := (mkF m 1 #[.val (.ref r1), .val (.int (0 : Int32))] [(.ref r1)])) rfl rfl (hb hby d45_1)
  obtain ⟨cl2, Ar2, -, Sr2, -, Hr2, -⟩ := id P3
  have hin2 : ¬ ((0 : Int32) < 0 ∨ cl2.slots.size ≤ ((0 : Int32) : Int32).toNatClampNeg) := inb_of Sr2 ⟨by decide, by decide⟩
  have hat2 : cl2.slots[((0 : Int32) : Int32).toNatClampNeg]? = some (.ref r3) := Has.at Hr2 hin2 rfl
  refine ⟨(some (.ref r3)), _, _, _, _, X1, (fun h => nomatch h), ?_, by decide, by decide, fun fs hr => castTop (ef_45_RI m r1 (0 : Int32)) ?_⟩
  · show own_QP (some (.ref r3)) n0 h0 _ T1.heap _
    rw [e1]
    exact ⟨rfl, N0, rfl⟩
  · show Steps p.tables e below (s₁.setTop (mkF m 0 #[.val (.ref r1), .val (.int (0 : Int32))] [])) _
    refine XS.aloadN X0.here hx rfl (hb hby d45_0) rfl rfl ?_
    refine st1 _ ?_
    refine XS.iloadN X1.here hx rfl (hb hby d45_4) rfl ?_
    refine X1.aaload hx (j := (0 : Int32)) (v := (.ref r3)) (by rw [e1]; exact Ar2.1) (State.isArrayOf_alike hZ.alike Ar2.2.1) rfl Ar2.2.2 hin2 hat2 (g := (mkF m 5 #[.val (.ref r1), .val (.int (0 : Int32))] [(.int (0 : Int32)), (.ref r2)])) rfl rfl (hb hby d45_5) _ ?_
    exact retA X1 hx hret rfl rfl rfl (hb hby d45_6) hr
theorem rm42_0 (l : Launch) (Z : State) (a0 : Array Value) (hw : own_HW a0 Z) (r1 : Addr) (r2 : Addr) (r3 : Addr) (k_r2 : ClassId) (h0 : Heap) (n0 : Nat) (O0 : Old Z n0 h0) (P1 : Fld Z h0 r1 sN0 "size" "I" (.int (1 : Int32))) (P2 : Exa Z h0 r1 sN0) (P3 : Fld Z h0 r1 sN0 "elementData" sN4 (.ref r2)) (P4 : Ovr Z k_r2 sN1) (P5 : Arv Z h0 r2 k_r2 (.object sN1) (2 : Int32) [(.ref r3), .null] .null) :
    own_Ct l Z yN41 jdk_38_method_20_code 2 (some (.object sN1)) ({ frames := 2, cells := 0, slots := 0, locals := 27 } : Room) #[(.ref r1), (.int (0 : Int32))] h0 (own_QP (some (.ref r3)) n0 h0) := by
  refine own_enter (own := sN0) rfl (plainFor_of_name pn_3) ?_
  intro p e s m below meth c s₁ X0 hx hby hml hown hnm hret hZ e0
  have N0 := Fr.nil n0
  obtain ⟨T1, X1, e1, st1⟩ := getF X0 hx hZ hown (host := "") (Or.inl (w40 hw)) Via.refl e0 P1 (g := (mkF m 2 #[.val (.ref r1), .val (.int (0 : Int32))] [(.ref r1), (.int (0 : Int32))])) rfl rfl (hb hby d42_2)
  obtain ⟨_, T2, L2, X2, hQ2, st2⟩ := own_cS X1 hx hZ hown (w321 hw) (w322 hw) (w76 hw) (w323 hw) (rm43_0 l Z a0 hw  h0 n0 O0 ) e1 (hb hby d42_5) hml pd_26 [(.int (0 : Int32)), (.int (1 : Int32))] [] (g := (mkF m 5 #[.val (.ref r1), .val (.int (0 : Int32))] [(.int (1 : Int32)), (.int (0 : Int32))]))
  obtain ⟨rfl, N2q, e2⟩ := hQ2
  have N2 := Fr.app N0 N2q
  obtain ⟨_, T3, L3, X3, hQ3, st3⟩ := own_cV X2 hx hZ hown (notFace_of_selects (args := #[]) (mvT hZ (w331 hw))) (w328 hw) (w329 hw) (w331 hw) (w330 hw) (w2 hw) (w332 hw) P2 (rm45_0 l Z a0 hw r1 r2 r3 k_r2 h0 n0 O0 P3 P4 P5) e2 (hb hby d42_11) hml pd_47 [(.int (0 : Int32))] [] (g := (mkF m 11 #[.val (.ref r1), .val (.int (0 : Int32))] [(.int (0 : Int32)), (.ref r1)]))
  obtain ⟨rfl, N3q, e3⟩ := hQ3
  have N3 := Fr.app N2 N3q
  refine ⟨(some (.ref r3)), _, _, _, _, X3, (fun h => nomatch h), ?_, by decide, by decide, fun fs hr => castTop (ef_42_RI m r1 (0 : Int32)) ?_⟩
  · show own_QP (some (.ref r3)) n0 h0 _ T3.heap _
    rw [e3]
    exact ⟨rfl, N3, rfl⟩
  · show Steps p.tables e below (s₁.setTop (mkF m 0 #[.val (.ref r1), .val (.int (0 : Int32))] [])) _
    refine XS.iloadN X0.here hx rfl (hb hby d42_0) rfl ?_
    refine XS.aloadN X0.here hx rfl (hb hby d42_1) rfl rfl ?_
    refine st1 _ ?_
    refine st2 _ ?_
    refine XS.pop X2.here hx rfl (hb hby d42_8) rfl rfl ?_
    refine XS.aloadN X2.here hx rfl (hb hby d42_9) rfl rfl ?_
    refine XS.iloadN X2.here hx rfl (hb hby d42_10) rfl ?_
    refine st3 _ ?_
    show Steps p.tables e below (T3.setTop (mkF m 14 #[.val (.ref r1), .val (.int (0 : Int32))] [(.ref r3)])) _
    exact retA X3 hx hret rfl rfl rfl (hb hby d42_14) hr
theorem rm33_1 (l : Launch) (Z : State) (a0 : Array Value) (hw : own_HW a0 Z) (w_BOOLEAN : Addr) (r1 : Addr) (r2 : Addr) (k_r2 : ClassId) (r3 : Addr) (r4 : Addr) (p1 : Int32) (h0 : Heap) (n0 : Nat) (O0 : Old Z n0 h0) (P1 : Exa Z h0 r1 sN0) (P2 : Fld Z h0 r1 sN0 "size" "I" (.int (2 : Int32))) (P3 : Fld Z h0 r1 sN13 "modCount" "I" (.int (2 : Int32))) (P4 : Fld Z h0 r1 sN0 "elementData" sN4 (.ref r2)) (P5 : Arv Z h0 r2 k_r2 (.object sN1) (10 : Int32) [(.ref r3), (.ref r4), .null, .null, .null, .null, .null, .null, .null, .null] .null) (P6 : Exa Z h0 r2 sN4) (P7 : Exa Z h0 r3 sN2) (P8 : Fld Z h0 r3 sN2 "dataType" sN15 (.ref w_BOOLEAN)) (P9 : Fld Z h0 r3 sN2 "parts" sN10 .null) (P10 : Fld Z h0 r3 sN2 "size" "I" (.int p1)) (P11 : ¬ (p1 = (0 : Int32))) (P12 : Exa Z h0 r4 sN2) (P13 : Fld Z h0 r4 sN2 "dataType" sN15 (.ref w_BOOLEAN)) (P14 : Fld Z h0 r4 sN2 "parts" sN10 .null) (P15 : Fld Z h0 r4 sN2 "size" "I" (.int (0 : Int32))) :
    own_Ct l Z yN15 prog_167_method_3_code 6 (some (.object sN2)) ({ frames := 8, cells := 6, slots := 18, locals := 128 } : Room) #[(.ref w_BOOLEAN), (.ref r1)] h0 (own_QJ Z p1 n0 h0) := by
  refine own_enter (own := sN2) rfl (plainFor_of_name pn_23) ?_
  intro p e s m below meth c s₁ X0 hx hby hml hown hnm hret hZ e0
  have N0 := Fr.nil n0
  obtain ⟨T1, h1, X1, e1, E1, A1, D1, -, st1⟩ := newO X0 hx hZ hown (w252 hw) (w1 hw) (w2 hw) e0 (g := (mkF m 0 #[.val (.ref w_BOOLEAN), .val (.ref r1), .unset, .unset, .unset, .unset] [])) rfl (hb hby d33_0) (by decide) (by decide)
  obtain ⟨b1, gq1⟩ : ∃ z, z = h0.size := ⟨_, rfl⟩
  rw [← gq1] at A1 D1 st1
  have g_b1 : n0 ≤ b1 := Nat.le_trans ((O0.1 ▸ O0.2.1) : n0 ≤ h0.size) (Nat.le_of_eq gq1.symm)
  have sz_b1 : h0.size ≤ b1 := Nat.le_trans (Keep.refl h0 []).1 (Nat.le_of_eq gq1.symm)
  have KK1 : Keep h0 h1 [] := (Keep.refl h0 []).ext E1
  have O1 := O0.ext E1
  have F_modCount_b1 : Fld Z h1 b1 sN13 "modCount" "I" (.int (0 : Int32)) := D1 (Or.inl (w22 hw)) (ty := .int) (by decide)
  have F_elementData_b1 : Fld Z h1 b1 sN0 "elementData" sN4 .null := D1 (Or.inl (w25 hw)) (ty := (.array (.object sN1))) (by decide)
  have F_size_b1 : Fld Z h1 b1 sN0 "size" "I" (.int (0 : Int32)) := D1 (Or.inl (w41 hw)) (ty := .int) (by decide)
  obtain ⟨_, T2, L2, X2, hQ2, st2⟩ := own_cF X1 hx hZ hown (w111 hw) (w112 hw) (w113 hw) (w253 hw) (w254 hw) (w255 hw) (w256 hw) (w257 hw) (w2 hw) (w258 hw) (P1.ext E1) (rm34_0 l Z a0 hw r1 h1 n0 O1 (P2.ext E1)) e1 (hb hby d33_5) hml pd_15 [] [(.ref b1), (.ref b1)] (g := (mkF m 5 #[.val (.ref w_BOOLEAN), .val (.ref r1), .unset, .unset, .unset, .unset] [(.ref r1), (.ref b1), (.ref b1)]))
  obtain ⟨rfl, N2q, e2⟩ := hQ2
  have N2 := Fr.app N0 N2q
  obtain ⟨_, T3, L3, X3, hQ3, st3⟩ := own_cI X2 hx hZ hown rfl (w259 hw) (w260 hw) (w2 hw) (w261 hw) (rm35_0 l Z a0 hw b1 h1 n0 O1 A1 F_modCount_b1 F_elementData_b1 F_size_b1 g_b1) e2 (hb hby d33_10) hml pd_63 [(.int (2 : Int32))] [(.ref b1)] (g := (mkF m 10 #[.val (.ref w_BOOLEAN), .val (.ref r1), .unset, .unset, .unset, .unset] [(.int (2 : Int32)), (.ref b1), (.ref b1)]))
  obtain ⟨b3_0, kc3_0, rfl, N3q, K3, ge_b3_0, f3_0, f3_1, f3_2, f3_3, f3_4, ov3_4⟩ := hQ3
  have g_b3_0 : n0 ≤ b3_0 := Nat.le_trans ((O1.1 ▸ O1.2.1) : n0 ≤ h1.size) ge_b3_0
  have sz_b3_0 : h0.size ≤ b3_0 := Nat.le_trans KK1.1 ge_b3_0
  have KK3 : Keep h0 T3.heap [] := KK1.trans K3 (allS (Or.inr sz_b1) all0)
  have O3 := O1.keep K3 (allS g_b1 all0)
  have N3 := Fr.app N2 N3q
  have nz4 : r1 ≠ b1 := (Nat.ne_of_lt (Nat.lt_of_lt_of_le P1.lt (Nat.le_of_eq gq1.symm)))
  obtain ⟨_, T5, L5, X5, hQ5, st5⟩ := own_cF X3 hx hZ hown (w127 hw) (w128 hw) (w129 hw) (w262 hw) (w263 hw) (w264 hw) (w265 hw) (w257 hw) (w2 hw) (w266 hw) ((P1.ext E1).keep K3) (rm36_0 l Z a0 hw r1 T3.heap n0 O3 ((P3.ext E1).keep K3 (ninS nz4 nin0)) ((P1.ext E1).keep K3)) rfl (hb hby d33_17) hml pd_21 [] [] (g := (mkF m 17 #[.val (.ref w_BOOLEAN), .val (.ref r1), .val (.ref b1), .val (.int (0 : Int32)), .unset, .unset] [(.ref r1)]))
  obtain ⟨b5_0, rfl, N5q, K5, ge_b5_0, f5_0, f5_1, f5_2, f5_3, f5_4⟩ := hQ5
  have g_b5_0 : n0 ≤ b5_0 := Nat.le_trans ((O3.1 ▸ O3.2.1) : n0 ≤ T3.heap.size) ge_b5_0
  have sz_b5_0 : h0.size ≤ b5_0 := Nat.le_trans KK3.1 ge_b5_0
  have KK5 : Keep h0 T5.heap [] := KK3.trans K5 all0
  have O5 := O3.keep K5 all0
  have N5 := Fr.app N3 N5q
  have fc6 := (((P2.ext E1).keep K3 (ninS nz4 nin0)).keep K5 nin0)
  obtain ⟨_, T7, L7, X7, hQ7, st7⟩ := own_cF X5 hx hZ hown (w156 hw) (w157 hw) (w158 hw) (w282 hw) (w283 hw) (w284 hw) (w285 hw) (w286 hw) (w269 hw) (w287 hw) f5_0 (rm38_0 l Z a0 hw b5_0 r1 T5.heap n0 O5 f5_4 f5_1 fc6) rfl (hb hby d33_26) hml pd_5 [] [] (g := (mkF m 26 #[.val (.ref w_BOOLEAN), .val (.ref r1), .val (.ref b1), .val (.int (0 : Int32)), .val (.ref b5_0), .unset] [(.ref b5_0)]))
  obtain ⟨rfl, N7q, e7⟩ := hQ7
  have N7 := Fr.app N5 N7q
  have fc8 := (((P3.ext E1).keep K3 (ninS nz4 nin0)).keep K5 nin0)
  have fc9 := (((P4.ext E1).keep K3 (ninS nz4 nin0)).keep K5 nin0)
  have nz10 : r2 ≠ b1 := (ne_exa (P6.ext E1) A1 (by decide))
  have fc11 := (((P5.ext E1).keep K3 (ninS nz10 nin0)).keep K5 nin0)
  obtain ⟨_, T12, L12, X12, hQ12, st12⟩ := own_cF X7 hx hZ hown (w223 hw) (w224 hw) (w225 hw) (w291 hw) (w292 hw) (w293 hw) (w294 hw) (w286 hw) (w269 hw) (w295 hw) f5_0 (rm39_0 l Z a0 hw b5_0 r1 r2 r3 r4 k_r2 T5.heap n0 O5 f5_0 f5_1 fc8 f5_3 f5_4 fc6 fc9 fc11 f5_2 g_b5_0 (((P6.ext E1).keep K3).keep K5)) e7 (hb hby d33_36) hml pd_49 [] [] (g := (mkF m 36 #[.val (.ref w_BOOLEAN), .val (.ref r1), .val (.ref b1), .val (.int (0 : Int32)), .val (.ref b5_0), .unset] [(.ref b5_0)]))
  obtain ⟨rfl, N12q, K12, f12_0, f12_1, f12_2, f12_3⟩ := hQ12
  have KK12 : Keep h0 T12.heap [] := KK5.trans K12 (allS (Or.inr sz_b5_0) all0)
  have O12 := O5.keep K12 (allS g_b5_0 all0)
  have N12 := Fr.app N7 N12q
  have fc13 := ((((P7.ext E1).keep K3).keep K5).keep K12)
  obtain ⟨T14, X14, e14, st14⟩ := castY X12 hx hZ hown (w302 hw) rfl (Ins.self fc13) (g := (mkF m 41 #[.val (.ref w_BOOLEAN), .val (.ref r1), .val (.ref b1), .val (.int (0 : Int32)), .val (.ref b5_0), .unset] [(.ref r3)])) rfl rfl (hb hby d33_41)
  have nz15 : r3 ≠ b1 := (ne_exa (P7.ext E1) A1 (by decide))
  have nz16 : r3 ≠ b5_0 := (ne_exa (((P7.ext E1).keep K3).keep K5) f5_0 (by decide))
  have fc17 := ((((P8.ext E1).keep K3 (ninS nz15 nin0)).keep K5 nin0).keep K12 (ninS nz16 nin0))
  obtain ⟨T18, X18, e18, st18⟩ := getF X14 hx hZ hown (host := "") (Or.inl (w80 hw)) Via.refl e14 fc17 (g := (mkF m 48 #[.val (.ref w_BOOLEAN), .val (.ref r1), .val (.ref b1), .val (.int (0 : Int32)), .val (.ref b5_0), .val (.ref r3)] [(.ref r3)])) rfl rfl (hb hby d33_48)
  have fc19 := ((((P9.ext E1).keep K3 (ninS nz15 nin0)).keep K5 nin0).keep K12 (ninS nz16 nin0))
  obtain ⟨T20, X20, e20, st20⟩ := getF X18 hx hZ hown (host := "") (Or.inl (w125 hw)) Via.refl e18 fc19 (g := (mkF m 79 #[.val (.ref w_BOOLEAN), .val (.ref r1), .val (.ref b1), .val (.int (0 : Int32)), .val (.ref b5_0), .val (.ref r3)] [(.ref r3)])) rfl rfl (hb hby d33_79)
  have fc21 := ((((P10.ext E1).keep K3 (ninS nz15 nin0)).keep K5 nin0).keep K12 (ninS nz16 nin0))
  obtain ⟨_, T22, L22, X22, hQ22, st22⟩ := own_cV X20 hx hZ hown (notFace_of_selects (args := #[]) (mvT hZ (w307 hw))) (w304 hw) (w305 hw) (w307 hw) (w306 hw) (w66 hw) (w308 hw) fc13 (rm41_1 l Z a0 hw r3 p1 T12.heap n0 O12 fc21 P11) e20 (hb hby d33_102) hml pd_5 [] [] (g := (mkF m 102 #[.val (.ref w_BOOLEAN), .val (.ref r1), .val (.ref b1), .val (.int (0 : Int32)), .val (.ref b5_0), .val (.ref r3)] [(.ref r3)]))
  obtain ⟨rfl, N22q, e22⟩ := hQ22
  have N22 := Fr.app N12 N22q
  have nz23 : b1 ≠ b5_0 := (Nat.ne_of_lt (Nat.lt_of_lt_of_le (A1.keep K3).lt ge_b5_0))
  have fc24 := ((f3_0.keep K5 nin0).keep K12 (ninS nz23 nin0))
  have fc25 := ((f3_1.keep K5 nin0).keep K12 (ninS nz23 nin0))
  have fc26 := ((f3_2.keep K5 nin0).keep K12 (ninS nz23 nin0))
  have nz27 : b3_0 ≠ b5_0 := (Nat.ne_of_lt (Nat.lt_of_lt_of_le f3_3.lt ge_b5_0))
  have fc28 := ((f3_4.keep K5 nin0).keep K12 (ninS nz27 nin0))
  obtain ⟨_, T29, L29, X29, hQ29, st29⟩ := own_cF X22 hx hZ hown (w309 hw) (w310 hw) (w311 hw) (w312 hw) (w35 hw) (w313 hw) (w314 hw) (w257 hw) (w2 hw) (w37 hw) (((A1.keep K3).keep K5).keep K12) (rm6_0 l Z a0 hw b1 r3 b3_0 kc3_0 T12.heap n0 O12 fc24 (((A1.keep K3).keep K5).keep K12) fc25 fc26 g_b1 ov3_4 fc28 ((f3_3.keep K5).keep K12) fc13 g_b3_0) e22 (hb hby d33_111) hml pd_78 [(.ref r3)] [] (g := (mkF m 111 #[.val (.ref w_BOOLEAN), .val (.ref r1), .val (.ref b1), .val (.int (0 : Int32)), .val (.ref b5_0), .val (.ref r3)] [(.ref r3), (.ref b1)]))
  obtain ⟨rfl, N29q, K29, f29_0, ov29_0, f29_1, f29_2, f29_3⟩ := hQ29
  have KK29 : Keep h0 T29.heap [] := KK12.trans K29 (allS (Or.inr sz_b1) (allS (Or.inr sz_b3_0) all0))
  have O29 := O12.keep K29 (allS g_b1 (allS g_b3_0 all0))
  have N29 := Fr.app N22 N29q
  have nz30 : r3 ≠ b3_0 := (ne_exa ((P7.ext E1).keep K3) f3_3 (by decide))
  have fc31 := (fc21.keep K29 (ninS nz15 (ninS nz30 nin0)))
  obtain ⟨T32, X32, e32, st32⟩ := getF X29 hx hZ hown (host := "") (Or.inl (w123 hw)) Via.refl rfl fc31 (g := (mkF m 120 #[.val (.ref w_BOOLEAN), .val (.ref r1), .val (.ref b1), .val (.int (0 : Int32)), .val (.ref b5_0), .val (.ref r3)] [(.ref r3), (.int (0 : Int32))])) rfl rfl (hb hby d33_120)
  have fc33 := (f12_2.keep K29 (ninS nz23.symm (ninS nz27.symm nin0)))
  have fc34 := (f12_0.keep K29 (ninS nz23.symm (ninS nz27.symm nin0)))
  have nz35 : r1 ≠ b5_0 := (ne_exa (((P1.ext E1).keep K3).keep K5) f5_0 (by decide))
  have nz36 : r1 ≠ b3_0 := (ne_exa ((P1.ext E1).keep K3) f3_3 (by decide))
  have fc37 := ((fc6.keep K12 (ninS nz35 nin0)).keep K29 (ninS nz4 (ninS nz36 nin0)))
  obtain ⟨_, T38, L38, X38, hQ38, st38⟩ := own_cF X32 hx hZ hown (w156 hw) (w157 hw) (w158 hw) (w282 hw) (w283 hw) (w284 hw) (w285 hw) (w286 hw) (w269 hw) (w287 hw) ((f5_0.keep K12).keep K29) (rm38_1 l Z a0 hw b5_0 r1 T29.heap n0 O29 fc33 fc34 fc37) e32 (hb hby d33_26) hml pd_5 [] [] (g := (mkF m 26 #[.val (.ref w_BOOLEAN), .val (.ref r1), .val (.ref b1), .val (.int ((0 : Int32) + p1)), .val (.ref b5_0), .val (.ref r3)] [(.ref b5_0)]))
  obtain ⟨rfl, N38q, e38⟩ := hQ38
  have N38 := Fr.app N29 N38q
  have fc39 := ((fc8.keep K12 (ninS nz35 nin0)).keep K29 (ninS nz4 (ninS nz36 nin0)))
  have fc40 := (f12_1.keep K29 (ninS nz23.symm (ninS nz27.symm nin0)))
  have fc41 := ((fc9.keep K12 (ninS nz35 nin0)).keep K29 (ninS nz4 (ninS nz36 nin0)))
  have nz42 : r2 ≠ b5_0 := (ne_exa (((P6.ext E1).keep K3).keep K5) f5_0 (by decide))
  have nz43 : r2 ≠ b3_0 := (Nat.ne_of_lt (Nat.lt_of_lt_of_le (P5.ext E1).lt ge_b3_0))
  have fc44 := ((fc11.keep K12 (ninS nz42 nin0)).keep K29 (ninS nz10 (ninS nz43 nin0)))
  have fc45 := (f12_3.keep K29 (ninS nz23.symm (ninS nz27.symm nin0)))
  have fc46 := (((((P6.ext E1).keep K3).keep K5).keep K12).keep K29)
  obtain ⟨_, T47, L47, X47, hQ47, st47⟩ := own_cF X38 hx hZ hown (w223 hw) (w224 hw) (w225 hw) (w291 hw) (w292 hw) (w293 hw) (w294 hw) (w286 hw) (w269 hw) (w295 hw) ((f5_0.keep K12).keep K29) (rm39_1 l Z a0 hw b5_0 r1 r2 r3 r4 k_r2 T29.heap n0 O29 ((f5_0.keep K12).keep K29) fc34 fc39 fc40 fc33 fc37 fc41 fc44 fc45 g_b5_0 fc46) e38 (hb hby d33_36) hml pd_49 [] [] (g := (mkF m 36 #[.val (.ref w_BOOLEAN), .val (.ref r1), .val (.ref b1), .val (.int ((0 : Int32) + p1)), .val (.ref b5_0), .val (.ref r3)] [(.ref b5_0)]))
  obtain ⟨rfl, N47q, K47, f47_0, f47_1, f47_2, f47_3⟩ := hQ47
  have KK47 : Keep h0 T47.heap [] := KK29.trans K47 (allS (Or.inr sz_b5_0) all0)
  have O47 := O29.keep K47 (allS g_b5_0 all0)
  have N47 := Fr.app N38 N47q
  have fc48 := ((((((P12.ext E1).keep K3).keep K5).keep K12).keep K29).keep K47)
  obtain ⟨T49, X49, e49, st49⟩ := castY X47 hx hZ hown (w302 hw) rfl (Ins.self fc48) (g := (mkF m 41 #[.val (.ref w_BOOLEAN), .val (.ref r1), .val (.ref b1), .val (.int ((0 : Int32) + p1)), .val (.ref b5_0), .val (.ref r3)] [(.ref r4)])) rfl rfl (hb hby d33_41)
  have nz50 : r4 ≠ b1 := (ne_exa (P12.ext E1) A1 (by decide))
  have nz51 : r4 ≠ b5_0 := (ne_exa (((P12.ext E1).keep K3).keep K5) f5_0 (by decide))
  have nz52 : r4 ≠ b3_0 := (ne_exa ((P12.ext E1).keep K3) f3_3 (by decide))
  have fc53 := ((((((P13.ext E1).keep K3 (ninS nz50 nin0)).keep K5 nin0).keep K12 (ninS nz51 nin0)).keep K29 (ninS nz50 (ninS nz52 nin0))).keep K47 (ninS nz51 nin0))
  obtain ⟨T54, X54, e54, st54⟩ := getF X49 hx hZ hown (host := "") (Or.inl (w80 hw)) Via.refl e49 fc53 (g := (mkF m 48 #[.val (.ref w_BOOLEAN), .val (.ref r1), .val (.ref b1), .val (.int ((0 : Int32) + p1)), .val (.ref b5_0), .val (.ref r4)] [(.ref r4)])) rfl rfl (hb hby d33_48)
  have fc55 := ((((((P14.ext E1).keep K3 (ninS nz50 nin0)).keep K5 nin0).keep K12 (ninS nz51 nin0)).keep K29 (ninS nz50 (ninS nz52 nin0))).keep K47 (ninS nz51 nin0))
  obtain ⟨T56, X56, e56, st56⟩ := getF X54 hx hZ hown (host := "") (Or.inl (w125 hw)) Via.refl e54 fc55 (g := (mkF m 79 #[.val (.ref w_BOOLEAN), .val (.ref r1), .val (.ref b1), .val (.int ((0 : Int32) + p1)), .val (.ref b5_0), .val (.ref r4)] [(.ref r4)])) rfl rfl (hb hby d33_79)
  have fc57 := ((((((P15.ext E1).keep K3 (ninS nz50 nin0)).keep K5 nin0).keep K12 (ninS nz51 nin0)).keep K29 (ninS nz50 (ninS nz52 nin0))).keep K47 (ninS nz51 nin0))
  obtain ⟨_, T58, L58, X58, hQ58, st58⟩ := own_cV X56 hx hZ hown (notFace_of_selects (args := #[]) (mvT hZ (w307 hw))) (w304 hw) (w305 hw) (w307 hw) (w306 hw) (w66 hw) (w308 hw) fc48 (rm41_0 l Z a0 hw r4 T47.heap n0 O47 fc57) e56 (hb hby d33_102) hml pd_5 [] [] (g := (mkF m 102 #[.val (.ref w_BOOLEAN), .val (.ref r1), .val (.ref b1), .val (.int ((0 : Int32) + p1)), .val (.ref b5_0), .val (.ref r4)] [(.ref r4)]))
  obtain ⟨rfl, N58q, e58⟩ := hQ58
  have N58 := Fr.app N47 N58q
  obtain ⟨T59, X59, e59, st59⟩ := getF X58 hx hZ hown (host := "") (Or.inl (w123 hw)) Via.refl e58 fc57 (g := (mkF m 120 #[.val (.ref w_BOOLEAN), .val (.ref r1), .val (.ref b1), .val (.int ((0 : Int32) + p1)), .val (.ref b5_0), .val (.ref r4)] [(.ref r4), (.int ((0 : Int32) + p1))])) rfl rfl (hb hby d33_120)
  obtain ⟨_, T60, L60, X60, hQ60, st60⟩ := own_cF X59 hx hZ hown (w156 hw) (w157 hw) (w158 hw) (w282 hw) (w283 hw) (w284 hw) (w285 hw) (w286 hw) (w269 hw) (w287 hw) (((f5_0.keep K12).keep K29).keep K47) (rm38_2 l Z a0 hw b5_0 r1 T47.heap n0 O47 f47_2 f47_0 (fc37.keep K47 (ninS nz35 nin0))) e59 (hb hby d33_26) hml pd_5 [] [] (g := (mkF m 26 #[.val (.ref w_BOOLEAN), .val (.ref r1), .val (.ref b1), .val (.int (((0 : Int32) + p1) + (0 : Int32))), .val (.ref b5_0), .val (.ref r4)] [(.ref b5_0)]))
  obtain ⟨rfl, N60q, e60⟩ := hQ60
  have N60 := Fr.app N58 N60q
  have fc61 := (((((A1.keep K3).keep K5).keep K12).keep K29).keep K47)
  obtain ⟨_, T62, L62, X62, hQ62, st62⟩ := own_cF X60 hx hZ hown (w111 hw) (w112 hw) (w113 hw) (w253 hw) (w254 hw) (w255 hw) (w256 hw) (w257 hw) (w2 hw) (w258 hw) fc61 (rm34_2 l Z a0 hw b1 T47.heap n0 O47 (f29_3.keep K47 (ninS nz23 nin0))) e60 (hb hby d33_129) hml pd_15 [] [] (g := (mkF m 129 #[.val (.ref w_BOOLEAN), .val (.ref r1), .val (.ref b1), .val (.int (((0 : Int32) + p1) + (0 : Int32))), .val (.ref b5_0), .val (.ref r4)] [(.ref b1)]))
  obtain ⟨rfl, N62q, e62⟩ := hQ62
  have N62 := Fr.app N60 N62q
  obtain ⟨_, T63, L63, X63, hQ63, st63⟩ := own_cF X62 hx hZ hown (w315 hw) (w232 hw) (w233 hw) (w316 hw) (w317 hw) (w318 hw) (w319 hw) (w257 hw) (w2 hw) (w320 hw) fc61 (rm42_0 l Z a0 hw b1 b3_0 r3 kc3_0 T47.heap n0 O47 (f29_3.keep K47 (ninS nz23 nin0)) fc61 (f29_2.keep K47 (ninS nz23 nin0)) ov29_0 (f29_0.keep K47 (ninS nz27 nin0))) e62 (hb hby d33_140) hml pd_47 [(.int (0 : Int32))] [] (g := (mkF m 140 #[.val (.ref w_BOOLEAN), .val (.ref r1), .val (.ref b1), .val (.int (((0 : Int32) + p1) + (0 : Int32))), .val (.ref b5_0), .val (.ref r4)] [(.int (0 : Int32)), (.ref b1)]))
  obtain ⟨rfl, N63q, e63⟩ := hQ63
  have N63 := Fr.app N62 N63q
  obtain ⟨T64, X64, e64, st64⟩ := castY X63 hx hZ hown (w302 hw) e63 (Ins.self ((fc13.keep K29).keep K47)) (g := (mkF m 145 #[.val (.ref w_BOOLEAN), .val (.ref r1), .val (.ref b1), .val (.int (((0 : Int32) + p1) + (0 : Int32))), .val (.ref b5_0), .val (.ref r4)] [(.ref r3)])) rfl rfl (hb hby d33_145)
  refine ⟨(some (.ref r3)), _, _, _, _, X64, (fun h => nomatch h), ?_, by decide, by decide, fun fs hr => castTop (ef_33_RR m w_BOOLEAN r1) ?_⟩
  · show own_QJ Z p1 n0 h0 _ T64.heap _
    rw [e64]
    exact ⟨r3, rfl, N63, KK47, ((fc13.keep K29).keep K47), (fc31.keep K47 (ninS nz16 nin0))⟩
  · show Steps p.tables e below (s₁.setTop (mkF m 0 #[.val (.ref w_BOOLEAN), .val (.ref r1), .unset, .unset, .unset, .unset] [])) _
    refine st1 _ ?_
    refine XS.dup X1.here hx rfl (hb hby d33_3) rfl rfl ?_
    refine XS.aloadN X1.here hx rfl (hb hby d33_4) rfl rfl ?_
    refine st2 _ ?_
    refine st3 _ ?_
    refine XS.astoreN X3.here hx rfl (hb hby d33_13) rfl rfl (l' := #[.val (.ref w_BOOLEAN), .val (.ref r1), .val (.ref b1), .unset, .unset, .unset]) rfl ?_
    refine XS.iconst X3.here hx rfl (hb hby d33_14) ?_
    refine XS.istoreN X3.here hx rfl (hb hby d33_15) rfl (l' := #[.val (.ref w_BOOLEAN), .val (.ref r1), .val (.ref b1), .val (.int (0 : Int32)), .unset, .unset]) rfl ?_
    show Steps p.tables e below (T3.setTop (mkF m 16 #[.val (.ref w_BOOLEAN), .val (.ref r1), .val (.ref b1), .val (.int (0 : Int32)), .unset, .unset] [])) _
    refine XS.aloadN X3.here hx rfl (hb hby d33_16) rfl rfl ?_
    refine st5 _ ?_
    refine XS.astore X5.here hx rfl (hb hby d33_22) rfl rfl (l' := #[.val (.ref w_BOOLEAN), .val (.ref r1), .val (.ref b1), .val (.int (0 : Int32)), .val (.ref b5_0), .unset]) rfl ?_
    refine XS.aload X5.here hx rfl (hb hby d33_24) rfl rfl ?_
    refine st7 _ ?_
    refine XS.ifNo X7.here hx rfl (hb hby d33_31) rfl (by decide) ?_
    refine XS.aload X7.here hx rfl (hb hby d33_34) rfl rfl ?_
    refine st12 _ ?_
    show Steps p.tables e below (T12.setTop (mkF m 41 #[.val (.ref w_BOOLEAN), .val (.ref r1), .val (.ref b1), .val (.int (0 : Int32)), .val (.ref b5_0), .unset] [(.ref r3)])) _
    refine st14 _ ?_
    refine XS.astore X14.here hx rfl (hb hby d33_44) rfl rfl (l' := #[.val (.ref w_BOOLEAN), .val (.ref r1), .val (.ref b1), .val (.int (0 : Int32)), .val (.ref b5_0), .val (.ref r3)]) rfl ?_
    refine XS.aload X14.here hx rfl (hb hby d33_46) rfl rfl ?_
    refine st18 _ ?_
    refine XS.aloadN X18.here hx rfl (hb hby d33_51) rfl rfl ?_
    refine Jvm.RoadKit.acmp (g := (mkF m 52 #[.val (.ref w_BOOLEAN), .val (.ref r1), .val (.ref b1), .val (.int (0 : Int32)), .val (.ref b5_0), .val (.ref r3)] [(.ref w_BOOLEAN), (.ref w_BOOLEAN)])) X18 hx rfl rfl rfl (pc0 := 52) (pc' := 77) (same := true) rfl (hb hby d33_52) rfl (decide_eq_true rfl) (by decide) (by decide) ?_
    refine XS.aload X18.here hx rfl (hb hby d33_77) rfl rfl ?_
    refine st20 _ ?_
    show Steps p.tables e below (T20.setTop (mkF m 82 #[.val (.ref w_BOOLEAN), .val (.ref r1), .val (.ref b1), .val (.int (0 : Int32)), .val (.ref b5_0), .val (.ref r3)] [.null])) _
    refine XS.ifnullYes X20.here hx rfl (pc0 := 82) (pc' := 100) rfl (hb hby d33_82) rfl (by decide) (by decide) ?_
    refine XS.aload X20.here hx rfl (hb hby d33_100) rfl rfl ?_
    refine st22 _ ?_
    refine XS.ifNo X22.here hx rfl (hb hby d33_105) rfl (by decide) ?_
    refine XS.aloadN X22.here hx rfl (hb hby d33_108) rfl rfl ?_
    refine XS.aload X22.here hx rfl (hb hby d33_109) rfl rfl ?_
    refine st29 _ ?_
    refine XS.pop X29.here hx rfl (hb hby d33_116) rfl rfl ?_
    show Steps p.tables e below (T29.setTop (mkF m 117 #[.val (.ref w_BOOLEAN), .val (.ref r1), .val (.ref b1), .val (.int (0 : Int32)), .val (.ref b5_0), .val (.ref r3)] [])) _
    refine XS.iloadN X29.here hx rfl (hb hby d33_117) rfl ?_
    refine XS.aload X29.here hx rfl (hb hby d33_118) rfl rfl ?_
    refine st32 _ ?_
    refine XS.iadd X32.here hx rfl (hb hby d33_123) rfl ?_
    refine XS.istoreN X32.here hx rfl (hb hby d33_124) rfl (l' := #[.val (.ref w_BOOLEAN), .val (.ref r1), .val (.ref b1), .val (.int ((0 : Int32) + p1)), .val (.ref b5_0), .val (.ref r3)]) rfl ?_
    refine XS.goto X32.here hx rfl (pc0 := 125) (pc' := 24) rfl (hb hby d33_125) (by decide) (by decide) ?_
    refine XS.aload X32.here hx rfl (hb hby d33_24) rfl rfl ?_
    refine st38 _ ?_
    show Steps p.tables e below (T38.setTop (mkF m 31 #[.val (.ref w_BOOLEAN), .val (.ref r1), .val (.ref b1), .val (.int ((0 : Int32) + p1)), .val (.ref b5_0), .val (.ref r3)] [(.int (1 : Int32))])) _
    refine XS.ifNo X38.here hx rfl (hb hby d33_31) rfl (by decide) ?_
    refine XS.aload X38.here hx rfl (hb hby d33_34) rfl rfl ?_
    refine st47 _ ?_
    refine st49 _ ?_
    refine XS.astore X49.here hx rfl (hb hby d33_44) rfl rfl (l' := #[.val (.ref w_BOOLEAN), .val (.ref r1), .val (.ref b1), .val (.int ((0 : Int32) + p1)), .val (.ref b5_0), .val (.ref r4)]) rfl ?_
    refine XS.aload X49.here hx rfl (hb hby d33_46) rfl rfl ?_
    refine st54 _ ?_
    refine XS.aloadN X54.here hx rfl (hb hby d33_51) rfl rfl ?_
    show Steps p.tables e below (T54.setTop (mkF m 52 #[.val (.ref w_BOOLEAN), .val (.ref r1), .val (.ref b1), .val (.int ((0 : Int32) + p1)), .val (.ref b5_0), .val (.ref r4)] [(.ref w_BOOLEAN), (.ref w_BOOLEAN)])) _
    refine Jvm.RoadKit.acmp (g := (mkF m 52 #[.val (.ref w_BOOLEAN), .val (.ref r1), .val (.ref b1), .val (.int ((0 : Int32) + p1)), .val (.ref b5_0), .val (.ref r4)] [(.ref w_BOOLEAN), (.ref w_BOOLEAN)])) X54 hx rfl rfl rfl (pc0 := 52) (pc' := 77) (same := true) rfl (hb hby d33_52) rfl (decide_eq_true rfl) (by decide) (by decide) ?_
    refine XS.aload X54.here hx rfl (hb hby d33_77) rfl rfl ?_
    refine st56 _ ?_
    refine XS.ifnullYes X56.here hx rfl (pc0 := 82) (pc' := 100) rfl (hb hby d33_82) rfl (by decide) (by decide) ?_
    refine XS.aload X56.here hx rfl (hb hby d33_100) rfl rfl ?_
    refine st58 _ ?_
    refine XS.ifYes X58.here hx rfl (pc0 := 105) (pc' := 117) rfl (hb hby d33_105) rfl (by decide) (by decide) (by decide) ?_
    refine XS.iloadN X58.here hx rfl (hb hby d33_117) rfl ?_
    show Steps p.tables e below (T58.setTop (mkF m 118 #[.val (.ref w_BOOLEAN), .val (.ref r1), .val (.ref b1), .val (.int ((0 : Int32) + p1)), .val (.ref b5_0), .val (.ref r4)] [(.int ((0 : Int32) + p1))])) _
    refine XS.aload X58.here hx rfl (hb hby d33_118) rfl rfl ?_
    refine st59 _ ?_
    refine XS.iadd X59.here hx rfl (hb hby d33_123) rfl ?_
    refine XS.istoreN X59.here hx rfl (hb hby d33_124) rfl (l' := #[.val (.ref w_BOOLEAN), .val (.ref r1), .val (.ref b1), .val (.int (((0 : Int32) + p1) + (0 : Int32))), .val (.ref b5_0), .val (.ref r4)]) rfl ?_
    refine XS.goto X59.here hx rfl (pc0 := 125) (pc' := 24) rfl (hb hby d33_125) (by decide) (by decide) ?_
    refine XS.aload X59.here hx rfl (hb hby d33_24) rfl rfl ?_
    refine st60 _ ?_
    refine XS.ifYes X60.here hx rfl (pc0 := 31) (pc' := 128) rfl (hb hby d33_31) rfl (by decide) (by decide) (by decide) ?_
    show Steps p.tables e below (T60.setTop (mkF m 128 #[.val (.ref w_BOOLEAN), .val (.ref r1), .val (.ref b1), .val (.int (((0 : Int32) + p1) + (0 : Int32))), .val (.ref b5_0), .val (.ref r4)] [])) _
    refine XS.aloadN X60.here hx rfl (hb hby d33_128) rfl rfl ?_
    refine st62 _ ?_
    refine XS.iconst X62.here hx rfl (hb hby d33_134) ?_
    refine XS.icmpNo X62.here hx rfl (hb hby d33_135) rfl (by decide) ?_
    refine XS.aloadN X62.here hx rfl (hb hby d33_138) rfl rfl ?_
    refine XS.iconst X62.here hx rfl (hb hby d33_139) ?_
    refine st63 _ ?_
    refine st64 _ ?_
    show Steps p.tables e below (T64.setTop (mkF m 148 #[.val (.ref w_BOOLEAN), .val (.ref r1), .val (.ref b1), .val (.int (((0 : Int32) + p1) + (0 : Int32))), .val (.ref b5_0), .val (.ref r4)] [(.ref r3)])) _
    exact retA X64 hx hret rfl rfl rfl (hb hby d33_148) hr
theorem rm33_2 (l : Launch) (Z : State) (a0 : Array Value) (hw : own_HW a0 Z) (w_BOOLEAN : Addr) (r1 : Addr) (r2 : Addr) (k_r2 : ClassId) (r3 : Addr) (r4 : Addr) (p2 : Int32) (h0 : Heap) (n0 : Nat) (O0 : Old Z n0 h0) (P1 : Exa Z h0 r1 sN0) (P2 : Fld Z h0 r1 sN0 "size" "I" (.int (2 : Int32))) (P3 : Fld Z h0 r1 sN13 "modCount" "I" (.int (2 : Int32))) (P4 : Fld Z h0 r1 sN0 "elementData" sN4 (.ref r2)) (P5 : Arv Z h0 r2 k_r2 (.object sN1) (10 : Int32) [(.ref r3), (.ref r4), .null, .null, .null, .null, .null, .null, .null, .null] .null) (P6 : Exa Z h0 r2 sN4) (P7 : Exa Z h0 r3 sN2) (P8 : Fld Z h0 r3 sN2 "dataType" sN15 (.ref w_BOOLEAN)) (P9 : Fld Z h0 r3 sN2 "parts" sN10 .null) (P10 : Fld Z h0 r3 sN2 "size" "I" (.int (0 : Int32))) (P11 : Exa Z h0 r4 sN2) (P12 : Fld Z h0 r4 sN2 "dataType" sN15 (.ref w_BOOLEAN)) (P13 : Fld Z h0 r4 sN2 "parts" sN10 .null) (P14 : Fld Z h0 r4 sN2 "size" "I" (.int p2)) (P15 : ¬ (p2 = (0 : Int32))) :
    own_Ct l Z yN15 prog_167_method_3_code 6 (some (.object sN2)) ({ frames := 8, cells := 6, slots := 18, locals := 128 } : Room) #[(.ref w_BOOLEAN), (.ref r1)] h0 (own_QJ Z p2 n0 h0) := by
  refine own_enter (own := sN2) rfl (plainFor_of_name pn_23) ?_
  intro p e s m below meth c s₁ X0 hx hby hml hown hnm hret hZ e0
  have N0 := Fr.nil n0
  obtain ⟨T1, h1, X1, e1, E1, A1, D1, -, st1⟩ := newO X0 hx hZ hown (w252 hw) (w1 hw) (w2 hw) e0 (g := (mkF m 0 #[.val (.ref w_BOOLEAN), .val (.ref r1), .unset, .unset, .unset, .unset] [])) rfl (hb hby d33_0) (by decide) (by decide)
  obtain ⟨b1, gq1⟩ : ∃ z, z = h0.size := ⟨_, rfl⟩
  rw [← gq1] at A1 D1 st1
  have g_b1 : n0 ≤ b1 := Nat.le_trans ((O0.1 ▸ O0.2.1) : n0 ≤ h0.size) (Nat.le_of_eq gq1.symm)
  have sz_b1 : h0.size ≤ b1 := Nat.le_trans (Keep.refl h0 []).1 (Nat.le_of_eq gq1.symm)
  have KK1 : Keep h0 h1 [] := (Keep.refl h0 []).ext E1
  have O1 := O0.ext E1
  have F_modCount_b1 : Fld Z h1 b1 sN13 "modCount" "I" (.int (0 : Int32)) := D1 (Or.inl (w22 hw)) (ty := .int) (by decide)
  have F_elementData_b1 : Fld Z h1 b1 sN0 "elementData" sN4 .null := D1 (Or.inl (w25 hw)) (ty := (.array (.object sN1))) (by decide)
  have F_size_b1 : Fld Z h1 b1 sN0 "size" "I" (.int (0 : Int32)) := D1 (Or.inl (w41 hw)) (ty := .int) (by decide)
  obtain ⟨_, T2, L2, X2, hQ2, st2⟩ := own_cF X1 hx hZ hown (w111 hw) (w112 hw) (w113 hw) (w253 hw) (w254 hw) (w255 hw) (w256 hw) (w257 hw) (w2 hw) (w258 hw) (P1.ext E1) (rm34_0 l Z a0 hw r1 h1 n0 O1 (P2.ext E1)) e1 (hb hby d33_5) hml pd_15 [] [(.ref b1), (.ref b1)] (g := (mkF m 5 #[.val (.ref w_BOOLEAN), .val (.ref r1), .unset, .unset, .unset, .unset] [(.ref r1), (.ref b1), (.ref b1)]))
  obtain ⟨rfl, N2q, e2⟩ := hQ2
  have N2 := Fr.app N0 N2q
  obtain ⟨_, T3, L3, X3, hQ3, st3⟩ := own_cI X2 hx hZ hown rfl (w259 hw) (w260 hw) (w2 hw) (w261 hw) (rm35_0 l Z a0 hw b1 h1 n0 O1 A1 F_modCount_b1 F_elementData_b1 F_size_b1 g_b1) e2 (hb hby d33_10) hml pd_63 [(.int (2 : Int32))] [(.ref b1)] (g := (mkF m 10 #[.val (.ref w_BOOLEAN), .val (.ref r1), .unset, .unset, .unset, .unset] [(.int (2 : Int32)), (.ref b1), (.ref b1)]))
  obtain ⟨b3_0, kc3_0, rfl, N3q, K3, ge_b3_0, f3_0, f3_1, f3_2, f3_3, f3_4, ov3_4⟩ := hQ3
  have g_b3_0 : n0 ≤ b3_0 := Nat.le_trans ((O1.1 ▸ O1.2.1) : n0 ≤ h1.size) ge_b3_0
  have sz_b3_0 : h0.size ≤ b3_0 := Nat.le_trans KK1.1 ge_b3_0
  have KK3 : Keep h0 T3.heap [] := KK1.trans K3 (allS (Or.inr sz_b1) all0)
  have O3 := O1.keep K3 (allS g_b1 all0)
  have N3 := Fr.app N2 N3q
  have nz4 : r1 ≠ b1 := (Nat.ne_of_lt (Nat.lt_of_lt_of_le P1.lt (Nat.le_of_eq gq1.symm)))
  obtain ⟨_, T5, L5, X5, hQ5, st5⟩ := own_cF X3 hx hZ hown (w127 hw) (w128 hw) (w129 hw) (w262 hw) (w263 hw) (w264 hw) (w265 hw) (w257 hw) (w2 hw) (w266 hw) ((P1.ext E1).keep K3) (rm36_0 l Z a0 hw r1 T3.heap n0 O3 ((P3.ext E1).keep K3 (ninS nz4 nin0)) ((P1.ext E1).keep K3)) rfl (hb hby d33_17) hml pd_21 [] [] (g := (mkF m 17 #[.val (.ref w_BOOLEAN), .val (.ref r1), .val (.ref b1), .val (.int (0 : Int32)), .unset, .unset] [(.ref r1)]))
  obtain ⟨b5_0, rfl, N5q, K5, ge_b5_0, f5_0, f5_1, f5_2, f5_3, f5_4⟩ := hQ5
  have g_b5_0 : n0 ≤ b5_0 := Nat.le_trans ((O3.1 ▸ O3.2.1) : n0 ≤ T3.heap.size) ge_b5_0
  have sz_b5_0 : h0.size ≤ b5_0 := Nat.le_trans KK3.1 ge_b5_0
  have KK5 : Keep h0 T5.heap [] := KK3.trans K5 all0
  have O5 := O3.keep K5 all0
  have N5 := Fr.app N3 N5q
  have fc6 := (((P2.ext E1).keep K3 (ninS nz4 nin0)).keep K5 nin0)
  obtain ⟨_, T7, L7, X7, hQ7, st7⟩ := own_cF X5 hx hZ hown (w156 hw) (w157 hw) (w158 hw) (w282 hw) (w283 hw) (w284 hw) (w285 hw) (w286 hw) (w269 hw) (w287 hw) f5_0 (rm38_0 l Z a0 hw b5_0 r1 T5.heap n0 O5 f5_4 f5_1 fc6) rfl (hb hby d33_26) hml pd_5 [] [] (g := (mkF m 26 #[.val (.ref w_BOOLEAN), .val (.ref r1), .val (.ref b1), .val (.int (0 : Int32)), .val (.ref b5_0), .unset] [(.ref b5_0)]))
  obtain ⟨rfl, N7q, e7⟩ := hQ7
  have N7 := Fr.app N5 N7q
  have fc8 := (((P3.ext E1).keep K3 (ninS nz4 nin0)).keep K5 nin0)
  have fc9 := (((P4.ext E1).keep K3 (ninS nz4 nin0)).keep K5 nin0)
  have nz10 : r2 ≠ b1 := (ne_exa (P6.ext E1) A1 (by decide))
  have fc11 := (((P5.ext E1).keep K3 (ninS nz10 nin0)).keep K5 nin0)
  obtain ⟨_, T12, L12, X12, hQ12, st12⟩ := own_cF X7 hx hZ hown (w223 hw) (w224 hw) (w225 hw) (w291 hw) (w292 hw) (w293 hw) (w294 hw) (w286 hw) (w269 hw) (w295 hw) f5_0 (rm39_0 l Z a0 hw b5_0 r1 r2 r3 r4 k_r2 T5.heap n0 O5 f5_0 f5_1 fc8 f5_3 f5_4 fc6 fc9 fc11 f5_2 g_b5_0 (((P6.ext E1).keep K3).keep K5)) e7 (hb hby d33_36) hml pd_49 [] [] (g := (mkF m 36 #[.val (.ref w_BOOLEAN), .val (.ref r1), .val (.ref b1), .val (.int (0 : Int32)), .val (.ref b5_0), .unset] [(.ref b5_0)]))
  obtain ⟨rfl, N12q, K12, f12_0, f12_1, f12_2, f12_3⟩ := hQ12
  have KK12 : Keep h0 T12.heap [] := KK5.trans K12 (allS (Or.inr sz_b5_0) all0)
  have O12 := O5.keep K12 (allS g_b5_0 all0)
  have N12 := Fr.app N7 N12q
  have fc13 := ((((P7.ext E1).keep K3).keep K5).keep K12)
  obtain ⟨T14, X14, e14, st14⟩ := castY X12 hx hZ hown (w302 hw) rfl (Ins.self fc13) (g := (mkF m 41 #[.val (.ref w_BOOLEAN), .val (.ref r1), .val (.ref b1), .val (.int (0 : Int32)), .val (.ref b5_0), .unset] [(.ref r3)])) rfl rfl (hb hby d33_41)
  have nz15 : r3 ≠ b1 := (ne_exa (P7.ext E1) A1 (by decide))
  have nz16 : r3 ≠ b5_0 := (ne_exa (((P7.ext E1).keep K3).keep K5) f5_0 (by decide))
  have fc17 := ((((P8.ext E1).keep K3 (ninS nz15 nin0)).keep K5 nin0).keep K12 (ninS nz16 nin0))
  obtain ⟨T18, X18, e18, st18⟩ := getF X14 hx hZ hown (host := "") (Or.inl (w80 hw)) Via.refl e14 fc17 (g := (mkF m 48 #[.val (.ref w_BOOLEAN), .val (.ref r1), .val (.ref b1), .val (.int (0 : Int32)), .val (.ref b5_0), .val (.ref r3)] [(.ref r3)])) rfl rfl (hb hby d33_48)
  have fc19 := ((((P9.ext E1).keep K3 (ninS nz15 nin0)).keep K5 nin0).keep K12 (ninS nz16 nin0))
  obtain ⟨T20, X20, e20, st20⟩ := getF X18 hx hZ hown (host := "") (Or.inl (w125 hw)) Via.refl e18 fc19 (g := (mkF m 79 #[.val (.ref w_BOOLEAN), .val (.ref r1), .val (.ref b1), .val (.int (0 : Int32)), .val (.ref b5_0), .val (.ref r3)] [(.ref r3)])) rfl rfl (hb hby d33_79)
  have fc21 := ((((P10.ext E1).keep K3 (ninS nz15 nin0)).keep K5 nin0).keep K12 (ninS nz16 nin0))
  obtain ⟨_, T22, L22, X22, hQ22, st22⟩ := own_cV X20 hx hZ hown (notFace_of_selects (args := #[]) (mvT hZ (w307 hw))) (w304 hw) (w305 hw) (w307 hw) (w306 hw) (w66 hw) (w308 hw) fc13 (rm41_0 l Z a0 hw r3 T12.heap n0 O12 fc21) e20 (hb hby d33_102) hml pd_5 [] [] (g := (mkF m 102 #[.val (.ref w_BOOLEAN), .val (.ref r1), .val (.ref b1), .val (.int (0 : Int32)), .val (.ref b5_0), .val (.ref r3)] [(.ref r3)]))
  obtain ⟨rfl, N22q, e22⟩ := hQ22
  have N22 := Fr.app N12 N22q
  obtain ⟨T23, X23, e23, st23⟩ := getF X22 hx hZ hown (host := "") (Or.inl (w123 hw)) Via.refl e22 fc21 (g := (mkF m 120 #[.val (.ref w_BOOLEAN), .val (.ref r1), .val (.ref b1), .val (.int (0 : Int32)), .val (.ref b5_0), .val (.ref r3)] [(.ref r3), (.int (0 : Int32))])) rfl rfl (hb hby d33_120)
  have nz24 : r1 ≠ b5_0 := (ne_exa (((P1.ext E1).keep K3).keep K5) f5_0 (by decide))
  obtain ⟨_, T25, L25, X25, hQ25, st25⟩ := own_cF X23 hx hZ hown (w156 hw) (w157 hw) (w158 hw) (w282 hw) (w283 hw) (w284 hw) (w285 hw) (w286 hw) (w269 hw) (w287 hw) (f5_0.keep K12) (rm38_1 l Z a0 hw b5_0 r1 T12.heap n0 O12 f12_2 f12_0 (fc6.keep K12 (ninS nz24 nin0))) e23 (hb hby d33_26) hml pd_5 [] [] (g := (mkF m 26 #[.val (.ref w_BOOLEAN), .val (.ref r1), .val (.ref b1), .val (.int (0 : Int32)), .val (.ref b5_0), .val (.ref r3)] [(.ref b5_0)]))
  obtain ⟨rfl, N25q, e25⟩ := hQ25
  have N25 := Fr.app N22 N25q
  have nz26 : r2 ≠ b5_0 := (ne_exa (((P6.ext E1).keep K3).keep K5) f5_0 (by decide))
  have fc27 := ((((P6.ext E1).keep K3).keep K5).keep K12)
  obtain ⟨_, T28, L28, X28, hQ28, st28⟩ := own_cF X25 hx hZ hown (w223 hw) (w224 hw) (w225 hw) (w291 hw) (w292 hw) (w293 hw) (w294 hw) (w286 hw) (w269 hw) (w295 hw) (f5_0.keep K12) (rm39_1 l Z a0 hw b5_0 r1 r2 r3 r4 k_r2 T12.heap n0 O12 (f5_0.keep K12) f12_0 (fc8.keep K12 (ninS nz24 nin0)) f12_1 f12_2 (fc6.keep K12 (ninS nz24 nin0)) (fc9.keep K12 (ninS nz24 nin0)) (fc11.keep K12 (ninS nz26 nin0)) f12_3 g_b5_0 fc27) e25 (hb hby d33_36) hml pd_49 [] [] (g := (mkF m 36 #[.val (.ref w_BOOLEAN), .val (.ref r1), .val (.ref b1), .val (.int (0 : Int32)), .val (.ref b5_0), .val (.ref r3)] [(.ref b5_0)]))
  obtain ⟨rfl, N28q, K28, f28_0, f28_1, f28_2, f28_3⟩ := hQ28
  have KK28 : Keep h0 T28.heap [] := KK12.trans K28 (allS (Or.inr sz_b5_0) all0)
  have O28 := O12.keep K28 (allS g_b5_0 all0)
  have N28 := Fr.app N25 N28q
  have fc29 := (((((P11.ext E1).keep K3).keep K5).keep K12).keep K28)
  obtain ⟨T30, X30, e30, st30⟩ := castY X28 hx hZ hown (w302 hw) rfl (Ins.self fc29) (g := (mkF m 41 #[.val (.ref w_BOOLEAN), .val (.ref r1), .val (.ref b1), .val (.int (0 : Int32)), .val (.ref b5_0), .val (.ref r3)] [(.ref r4)])) rfl rfl (hb hby d33_41)
  have nz31 : r4 ≠ b1 := (ne_exa (P11.ext E1) A1 (by decide))
  have nz32 : r4 ≠ b5_0 := (ne_exa (((P11.ext E1).keep K3).keep K5) f5_0 (by decide))
  have fc33 := (((((P12.ext E1).keep K3 (ninS nz31 nin0)).keep K5 nin0).keep K12 (ninS nz32 nin0)).keep K28 (ninS nz32 nin0))
  obtain ⟨T34, X34, e34, st34⟩ := getF X30 hx hZ hown (host := "") (Or.inl (w80 hw)) Via.refl e30 fc33 (g := (mkF m 48 #[.val (.ref w_BOOLEAN), .val (.ref r1), .val (.ref b1), .val (.int (0 : Int32)), .val (.ref b5_0), .val (.ref r4)] [(.ref r4)])) rfl rfl (hb hby d33_48)
  have fc35 := (((((P13.ext E1).keep K3 (ninS nz31 nin0)).keep K5 nin0).keep K12 (ninS nz32 nin0)).keep K28 (ninS nz32 nin0))
  obtain ⟨T36, X36, e36, st36⟩ := getF X34 hx hZ hown (host := "") (Or.inl (w125 hw)) Via.refl e34 fc35 (g := (mkF m 79 #[.val (.ref w_BOOLEAN), .val (.ref r1), .val (.ref b1), .val (.int (0 : Int32)), .val (.ref b5_0), .val (.ref r4)] [(.ref r4)])) rfl rfl (hb hby d33_79)
  have fc37 := (((((P14.ext E1).keep K3 (ninS nz31 nin0)).keep K5 nin0).keep K12 (ninS nz32 nin0)).keep K28 (ninS nz32 nin0))
  obtain ⟨_, T38, L38, X38, hQ38, st38⟩ := own_cV X36 hx hZ hown (notFace_of_selects (args := #[]) (mvT hZ (w307 hw))) (w304 hw) (w305 hw) (w307 hw) (w306 hw) (w66 hw) (w308 hw) fc29 (rm41_1 l Z a0 hw r4 p2 T28.heap n0 O28 fc37 P15) e36 (hb hby d33_102) hml pd_5 [] [] (g := (mkF m 102 #[.val (.ref w_BOOLEAN), .val (.ref r1), .val (.ref b1), .val (.int (0 : Int32)), .val (.ref b5_0), .val (.ref r4)] [(.ref r4)]))
  obtain ⟨rfl, N38q, e38⟩ := hQ38
  have N38 := Fr.app N28 N38q
  have fc39 := ((((A1.keep K3).keep K5).keep K12).keep K28)
  have nz40 : b1 ≠ b5_0 := (Nat.ne_of_lt (Nat.lt_of_lt_of_le (A1.keep K3).lt ge_b5_0))
  have fc41 := (((f3_0.keep K5 nin0).keep K12 (ninS nz40 nin0)).keep K28 (ninS nz40 nin0))
  have fc42 := (((f3_1.keep K5 nin0).keep K12 (ninS nz40 nin0)).keep K28 (ninS nz40 nin0))
  have fc43 := (((f3_2.keep K5 nin0).keep K12 (ninS nz40 nin0)).keep K28 (ninS nz40 nin0))
  have nz44 : b3_0 ≠ b5_0 := (Nat.ne_of_lt (Nat.lt_of_lt_of_le f3_3.lt ge_b5_0))
  have fc45 := (((f3_4.keep K5 nin0).keep K12 (ninS nz44 nin0)).keep K28 (ninS nz44 nin0))
  obtain ⟨_, T46, L46, X46, hQ46, st46⟩ := own_cF X38 hx hZ hown (w309 hw) (w310 hw) (w311 hw) (w312 hw) (w35 hw) (w313 hw) (w314 hw) (w257 hw) (w2 hw) (w37 hw) fc39 (rm6_0 l Z a0 hw b1 r4 b3_0 kc3_0 T28.heap n0 O28 fc41 fc39 fc42 fc43 g_b1 ov3_4 fc45 (((f3_3.keep K5).keep K12).keep K28) fc29 g_b3_0) e38 (hb hby d33_111) hml pd_78 [(.ref r4)] [] (g := (mkF m 111 #[.val (.ref w_BOOLEAN), .val (.ref r1), .val (.ref b1), .val (.int (0 : Int32)), .val (.ref b5_0), .val (.ref r4)] [(.ref r4), (.ref b1)]))
  obtain ⟨rfl, N46q, K46, f46_0, ov46_0, f46_1, f46_2, f46_3⟩ := hQ46
  have KK46 : Keep h0 T46.heap [] := KK28.trans K46 (allS (Or.inr sz_b1) (allS (Or.inr sz_b3_0) all0))
  have O46 := O28.keep K46 (allS g_b1 (allS g_b3_0 all0))
  have N46 := Fr.app N38 N46q
  have nz47 : r4 ≠ b3_0 := (ne_exa ((P11.ext E1).keep K3) f3_3 (by decide))
  have fc48 := (fc37.keep K46 (ninS nz31 (ninS nz47 nin0)))
  obtain ⟨T49, X49, e49, st49⟩ := getF X46 hx hZ hown (host := "") (Or.inl (w123 hw)) Via.refl rfl fc48 (g := (mkF m 120 #[.val (.ref w_BOOLEAN), .val (.ref r1), .val (.ref b1), .val (.int (0 : Int32)), .val (.ref b5_0), .val (.ref r4)] [(.ref r4), (.int (0 : Int32))])) rfl rfl (hb hby d33_120)
  have fc50 := (f28_2.keep K46 (ninS nz40.symm (ninS nz44.symm nin0)))
  have fc51 := (f28_0.keep K46 (ninS nz40.symm (ninS nz44.symm nin0)))
  have nz52 : r1 ≠ b3_0 := (ne_exa ((P1.ext E1).keep K3) f3_3 (by decide))
  have fc53 := (((fc6.keep K12 (ninS nz24 nin0)).keep K28 (ninS nz24 nin0)).keep K46 (ninS nz4 (ninS nz52 nin0)))
  obtain ⟨_, T54, L54, X54, hQ54, st54⟩ := own_cF X49 hx hZ hown (w156 hw) (w157 hw) (w158 hw) (w282 hw) (w283 hw) (w284 hw) (w285 hw) (w286 hw) (w269 hw) (w287 hw) (((f5_0.keep K12).keep K28).keep K46) (rm38_2 l Z a0 hw b5_0 r1 T46.heap n0 O46 fc50 fc51 fc53) e49 (hb hby d33_26) hml pd_5 [] [] (g := (mkF m 26 #[.val (.ref w_BOOLEAN), .val (.ref r1), .val (.ref b1), .val (.int ((0 : Int32) + p2)), .val (.ref b5_0), .val (.ref r4)] [(.ref b5_0)]))
  obtain ⟨rfl, N54q, e54⟩ := hQ54
  have N54 := Fr.app N46 N54q
  obtain ⟨_, T55, L55, X55, hQ55, st55⟩ := own_cF X54 hx hZ hown (w111 hw) (w112 hw) (w113 hw) (w253 hw) (w254 hw) (w255 hw) (w256 hw) (w257 hw) (w2 hw) (w258 hw) (fc39.keep K46) (rm34_2 l Z a0 hw b1 T46.heap n0 O46 f46_3) e54 (hb hby d33_129) hml pd_15 [] [] (g := (mkF m 129 #[.val (.ref w_BOOLEAN), .val (.ref r1), .val (.ref b1), .val (.int ((0 : Int32) + p2)), .val (.ref b5_0), .val (.ref r4)] [(.ref b1)]))
  obtain ⟨rfl, N55q, e55⟩ := hQ55
  have N55 := Fr.app N54 N55q
  obtain ⟨_, T56, L56, X56, hQ56, st56⟩ := own_cF X55 hx hZ hown (w315 hw) (w232 hw) (w233 hw) (w316 hw) (w317 hw) (w318 hw) (w319 hw) (w257 hw) (w2 hw) (w320 hw) (fc39.keep K46) (rm42_0 l Z a0 hw b1 b3_0 r4 kc3_0 T46.heap n0 O46 f46_3 (fc39.keep K46) f46_2 ov46_0 f46_0) e55 (hb hby d33_140) hml pd_47 [(.int (0 : Int32))] [] (g := (mkF m 140 #[.val (.ref w_BOOLEAN), .val (.ref r1), .val (.ref b1), .val (.int ((0 : Int32) + p2)), .val (.ref b5_0), .val (.ref r4)] [(.int (0 : Int32)), (.ref b1)]))
  obtain ⟨rfl, N56q, e56⟩ := hQ56
  have N56 := Fr.app N55 N56q
  obtain ⟨T57, X57, e57, st57⟩ := castY X56 hx hZ hown (w302 hw) e56 (Ins.self (fc29.keep K46)) (g := (mkF m 145 #[.val (.ref w_BOOLEAN), .val (.ref r1), .val (.ref b1), .val (.int ((0 : Int32) + p2)), .val (.ref b5_0), .val (.ref r4)] [(.ref r4)])) rfl rfl (hb hby d33_145)
  refine ⟨(some (.ref r4)), _, _, _, _, X57, (fun h => nomatch h), ?_, by decide, by decide, fun fs hr => castTop (ef_33_RR m w_BOOLEAN r1) ?_⟩
  · show own_QJ Z p2 n0 h0 _ T57.heap _
    rw [e57]
    exact ⟨r4, rfl, N56, KK46, (fc29.keep K46), fc48⟩
  · show Steps p.tables e below (s₁.setTop (mkF m 0 #[.val (.ref w_BOOLEAN), .val (.ref r1), .unset, .unset, .unset, .unset] [])) _
    refine st1 _ ?_
    refine XS.dup X1.here hx rfl (hb hby d33_3) rfl rfl ?_
    refine XS.aloadN X1.here hx rfl (hb hby d33_4) rfl rfl ?_
    refine st2 _ ?_
    refine st3 _ ?_
    refine XS.astoreN X3.here hx rfl (hb hby d33_13) rfl rfl (l' := #[.val (.ref w_BOOLEAN), .val (.ref r1), .val (.ref b1), .unset, .unset, .unset]) rfl ?_
    refine XS.iconst X3.here hx rfl (hb hby d33_14) ?_
    refine XS.istoreN X3.here hx rfl (hb hby d33_15) rfl (l' := #[.val (.ref w_BOOLEAN), .val (.ref r1), .val (.ref b1), .val (.int (0 : Int32)), .unset, .unset]) rfl ?_
    show Steps p.tables e below (T3.setTop (mkF m 16 #[.val (.ref w_BOOLEAN), .val (.ref r1), .val (.ref b1), .val (.int (0 : Int32)), .unset, .unset] [])) _
    refine XS.aloadN X3.here hx rfl (hb hby d33_16) rfl rfl ?_
    refine st5 _ ?_
    refine XS.astore X5.here hx rfl (hb hby d33_22) rfl rfl (l' := #[.val (.ref w_BOOLEAN), .val (.ref r1), .val (.ref b1), .val (.int (0 : Int32)), .val (.ref b5_0), .unset]) rfl ?_
    refine XS.aload X5.here hx rfl (hb hby d33_24) rfl rfl ?_
    refine st7 _ ?_
    refine XS.ifNo X7.here hx rfl (hb hby d33_31) rfl (by decide) ?_
    refine XS.aload X7.here hx rfl (hb hby d33_34) rfl rfl ?_
    refine st12 _ ?_
    show Steps p.tables e below (T12.setTop (mkF m 41 #[.val (.ref w_BOOLEAN), .val (.ref r1), .val (.ref b1), .val (.int (0 : Int32)), .val (.ref b5_0), .unset] [(.ref r3)])) _
    refine st14 _ ?_
    refine XS.astore X14.here hx rfl (hb hby d33_44) rfl rfl (l' := #[.val (.ref w_BOOLEAN), .val (.ref r1), .val (.ref b1), .val (.int (0 : Int32)), .val (.ref b5_0), .val (.ref r3)]) rfl ?_
    refine XS.aload X14.here hx rfl (hb hby d33_46) rfl rfl ?_
    refine st18 _ ?_
    refine XS.aloadN X18.here hx rfl (hb hby d33_51) rfl rfl ?_
    refine Jvm.RoadKit.acmp (g := (mkF m 52 #[.val (.ref w_BOOLEAN), .val (.ref r1), .val (.ref b1), .val (.int (0 : Int32)), .val (.ref b5_0), .val (.ref r3)] [(.ref w_BOOLEAN), (.ref w_BOOLEAN)])) X18 hx rfl rfl rfl (pc0 := 52) (pc' := 77) (same := true) rfl (hb hby d33_52) rfl (decide_eq_true rfl) (by decide) (by decide) ?_
    refine XS.aload X18.here hx rfl (hb hby d33_77) rfl rfl ?_
    refine st20 _ ?_
    show Steps p.tables e below (T20.setTop (mkF m 82 #[.val (.ref w_BOOLEAN), .val (.ref r1), .val (.ref b1), .val (.int (0 : Int32)), .val (.ref b5_0), .val (.ref r3)] [.null])) _
    refine XS.ifnullYes X20.here hx rfl (pc0 := 82) (pc' := 100) rfl (hb hby d33_82) rfl (by decide) (by decide) ?_
    refine XS.aload X20.here hx rfl (hb hby d33_100) rfl rfl ?_
    refine st22 _ ?_
    refine XS.ifYes X22.here hx rfl (pc0 := 105) (pc' := 117) rfl (hb hby d33_105) rfl (by decide) (by decide) (by decide) ?_
    refine XS.iloadN X22.here hx rfl (hb hby d33_117) rfl ?_
    refine XS.aload X22.here hx rfl (hb hby d33_118) rfl rfl ?_
    refine st23 _ ?_
    refine XS.iadd X23.here hx rfl (hb hby d33_123) rfl ?_
    show Steps p.tables e below (T23.setTop (mkF m 124 #[.val (.ref w_BOOLEAN), .val (.ref r1), .val (.ref b1), .val (.int (0 : Int32)), .val (.ref b5_0), .val (.ref r3)] [(.int ((0 : Int32) + (0 : Int32)))])) _
    rw [fo_3]
    refine XS.istoreN X23.here hx rfl (hb hby d33_124) rfl (l' := #[.val (.ref w_BOOLEAN), .val (.ref r1), .val (.ref b1), .val (.int (0 : Int32)), .val (.ref b5_0), .val (.ref r3)]) rfl ?_
    refine XS.goto X23.here hx rfl (pc0 := 125) (pc' := 24) rfl (hb hby d33_125) (by decide) (by decide) ?_
    refine XS.aload X23.here hx rfl (hb hby d33_24) rfl rfl ?_
    refine st25 _ ?_
    refine XS.ifNo X25.here hx rfl (hb hby d33_31) rfl (by decide) ?_
    refine XS.aload X25.here hx rfl (hb hby d33_34) rfl rfl ?_
    refine st28 _ ?_
    show Steps p.tables e below (T28.setTop (mkF m 41 #[.val (.ref w_BOOLEAN), .val (.ref r1), .val (.ref b1), .val (.int (0 : Int32)), .val (.ref b5_0), .val (.ref r3)] [(.ref r4)])) _
    refine st30 _ ?_
    refine XS.astore X30.here hx rfl (hb hby d33_44) rfl rfl (l' := #[.val (.ref w_BOOLEAN), .val (.ref r1), .val (.ref b1), .val (.int (0 : Int32)), .val (.ref b5_0), .val (.ref r4)]) rfl ?_
    refine XS.aload X30.here hx rfl (hb hby d33_46) rfl rfl ?_
    refine st34 _ ?_
    refine XS.aloadN X34.here hx rfl (hb hby d33_51) rfl rfl ?_
    refine Jvm.RoadKit.acmp (g := (mkF m 52 #[.val (.ref w_BOOLEAN), .val (.ref r1), .val (.ref b1), .val (.int (0 : Int32)), .val (.ref b5_0), .val (.ref r4)] [(.ref w_BOOLEAN), (.ref w_BOOLEAN)])) X34 hx rfl rfl rfl (pc0 := 52) (pc' := 77) (same := true) rfl (hb hby d33_52) rfl (decide_eq_true rfl) (by decide) (by decide) ?_
    refine XS.aload X34.here hx rfl (hb hby d33_77) rfl rfl ?_
    refine st36 _ ?_
    show Steps p.tables e below (T36.setTop (mkF m 82 #[.val (.ref w_BOOLEAN), .val (.ref r1), .val (.ref b1), .val (.int (0 : Int32)), .val (.ref b5_0), .val (.ref r4)] [.null])) _
    refine XS.ifnullYes X36.here hx rfl (pc0 := 82) (pc' := 100) rfl (hb hby d33_82) rfl (by decide) (by decide) ?_
    refine XS.aload X36.here hx rfl (hb hby d33_100) rfl rfl ?_
    refine st38 _ ?_
    refine XS.ifNo X38.here hx rfl (hb hby d33_105) rfl (by decide) ?_
    refine XS.aloadN X38.here hx rfl (hb hby d33_108) rfl rfl ?_
    refine XS.aload X38.here hx rfl (hb hby d33_109) rfl rfl ?_
    refine st46 _ ?_
    refine XS.pop X46.here hx rfl (hb hby d33_116) rfl rfl ?_
    show Steps p.tables e below (T46.setTop (mkF m 117 #[.val (.ref w_BOOLEAN), .val (.ref r1), .val (.ref b1), .val (.int (0 : Int32)), .val (.ref b5_0), .val (.ref r4)] [])) _
    refine XS.iloadN X46.here hx rfl (hb hby d33_117) rfl ?_
    refine XS.aload X46.here hx rfl (hb hby d33_118) rfl rfl ?_
    refine st49 _ ?_
    refine XS.iadd X49.here hx rfl (hb hby d33_123) rfl ?_
    refine XS.istoreN X49.here hx rfl (hb hby d33_124) rfl (l' := #[.val (.ref w_BOOLEAN), .val (.ref r1), .val (.ref b1), .val (.int ((0 : Int32) + p2)), .val (.ref b5_0), .val (.ref r4)]) rfl ?_
    refine XS.goto X49.here hx rfl (pc0 := 125) (pc' := 24) rfl (hb hby d33_125) (by decide) (by decide) ?_
    refine XS.aload X49.here hx rfl (hb hby d33_24) rfl rfl ?_
    refine st54 _ ?_
    show Steps p.tables e below (T54.setTop (mkF m 31 #[.val (.ref w_BOOLEAN), .val (.ref r1), .val (.ref b1), .val (.int ((0 : Int32) + p2)), .val (.ref b5_0), .val (.ref r4)] [(.int (0 : Int32))])) _
    refine XS.ifYes X54.here hx rfl (pc0 := 31) (pc' := 128) rfl (hb hby d33_31) rfl (by decide) (by decide) (by decide) ?_
    refine XS.aloadN X54.here hx rfl (hb hby d33_128) rfl rfl ?_
    refine st55 _ ?_
    refine XS.iconst X55.here hx rfl (hb hby d33_134) ?_
    refine XS.icmpNo X55.here hx rfl (hb hby d33_135) rfl (by decide) ?_
    refine XS.aloadN X55.here hx rfl (hb hby d33_138) rfl rfl ?_
    refine XS.iconst X55.here hx rfl (hb hby d33_139) ?_
    refine st56 _ ?_
    show Steps p.tables e below (T56.setTop (mkF m 145 #[.val (.ref w_BOOLEAN), .val (.ref r1), .val (.ref b1), .val (.int ((0 : Int32) + p2)), .val (.ref b5_0), .val (.ref r4)] [(.ref r4)])) _
    refine st57 _ ?_
    exact retA X57 hx hret rfl rfl rfl (hb hby d33_148) hr
def Q_rm7_1 (Z : State) (r1 : Addr) (r2 : Addr) (r3 : Addr) (r4 : Addr) (k_r3 : ClassId) (n0 : Nat) (h0 : Heap) (v : Option Value) (h : Heap) (L : List Loc) : Prop := v = none ∧ Fr n0 L ∧ Keep h0 h [r3, r1] ∧ Arv Z h r3 k_r3 (.object sN1) (2 : Int32) [(.ref r4), (.ref r2)] .null ∧ Ovr Z k_r3 sN1 ∧ Fld Z h r1 sN13 "modCount" "I" (.int (2 : Int32)) ∧ Fld Z h r1 sN0 "elementData" sN4 (.ref r3) ∧ Fld Z h r1 sN0 "size" "I" (.int (2 : Int32))
theorem rm7_1 (l : Launch) (Z : State) (a0 : Array Value) (hw : own_HW a0 Z) (r1 : Addr) (r2 : Addr) (r3 : Addr) (r4 : Addr) (k_r3 : ClassId) (h0 : Heap) (n0 : Nat) (O0 : Old Z n0 h0) (P1 : Ovr Z k_r3 sN1) (P2 : Arv Z h0 r3 k_r3 (.object sN1) (2 : Int32) [(.ref r4), .null] .null) (P3 : Exa Z h0 r2 sN2) (P4 : n0 ≤ r3) (P5 : Fld Z h0 r1 sN13 "modCount" "I" (.int (2 : Int32))) (P6 : Exa Z h0 r1 sN0) (P7 : Exa Z h0 r3 sN4) (P8 : Fld Z h0 r1 sN0 "elementData" sN4 (.ref r3)) (P9 : Fld Z h0 r1 sN0 "size" "I" (.int (1 : Int32))) (P10 : n0 ≤ r1) :
    own_Ct l Z yN3 jdk_38_method_24_code 4 none ({ frames := 0, cells := 0, slots := 0, locals := 0 } : Room) #[(.ref r1), (.ref r2), (.ref r3), (.int (1 : Int32))] h0 (Q_rm7_1 Z r1 r2 r3 r4 k_r3 n0 h0) := by
  refine own_enter (own := sN0) rfl (plainFor_of_name pn_3) ?_
  intro p e s m below meth c s₁ X0 hx hby hml hown hnm hret hZ e0
  have N0 := Fr.nil n0
  obtain ⟨cl1, Ar1, -, Sr1, Nr1, -, -⟩ := id P2
  obtain ⟨cl2, Ar2, qr2, Sr2, Nr2, Hr2, Gr2⟩ := id P2
  have hin2 : ¬ ((1 : Int32) < 0 ∨ cl2.slots.size ≤ ((1 : Int32) : Int32).toNatClampNeg) := inb_of Sr2 ⟨by decide, by decide⟩
  obtain ⟨T3, h3, X3, e3, W3, st3⟩ := stR X0 hx hZ e0 Ar2 (j := (1 : Int32)) hin2 rfl (Sto.ofV Ar2 qr2 P1 (Ins.of_exa P3 (w248 hw))) (g := (mkF m 14 #[.val (.ref r1), .val (.ref r2), .val (.ref r3), .val (.int (1 : Int32))] [(.ref r2), (.int (1 : Int32)), (.ref r3)])) rfl rfl (hb hby d7_14)
  have V3 : Arv Z h3 r3 k_r3 (.object sN1) (2 : Int32) [(.ref r4), (.ref r2)] .null := Arv.set Ar2 qr2 Sr2 Nr2 Hr2 Gr2 rfl W3 1 rfl (Nat.le_of_ble_eq_true rfl)
  have KK3 : Keep h0 h3 [r3, r1] := (Keep.refl h0 [r3, r1]).wr W3 (Or.inl (List.mem_of_getElem? (i := 0) rfl))
  have O3 := O0.wr W3 P4
  have N3 := Fr.snoc X3 N0 P4
  have nz4 : r1 ≠ r3 := (ne_exa P6 P7 (by decide))
  obtain ⟨T5, h5, X5, e5, W5, st5⟩ := putF X3 hx hZ hown (host := "") (Or.inl (w40 hw)) Via.refl e3 (P9.other W3 (Or.inl nz4)) (P6.wr W3) (Or.inl (w41 hw)) (w1 hw) (ty := .int) (by decide) rfl rfl (g := (mkF m 19 #[.val (.ref r1), .val (.ref r2), .val (.ref r3), .val (.int (1 : Int32))] [(.int (2 : Int32)), (.ref r1)])) rfl rfl (hb hby d7_19)
  have Fw5 := (P9.other W3 (Or.inl nz4)).same W5
  have KK5 : Keep h0 h5 [r3, r1] := KK3.wr W5 (Or.inl (List.mem_of_getElem? (i := 1) rfl))
  have O5 := O3.wr W5 P10
  have N5 := Fr.snoc X5 N3 P10
  have fc6 := ((P5.other W3 (Or.inl nz4)).other W5 (Or.inr (slot_ne (Or.inl (w22 hw)) (Or.inl (w41 hw)) (by decide) (t := .int) (t' := .int) (by decide) (by decide))))
  have fc7 := ((P8.other W3 (Or.inl nz4)).other W5 (Or.inr (slot_ne (Or.inl (w25 hw)) (Or.inl (w41 hw)) (by decide) (t := (.array (.object sN1))) (t' := .int) (by decide) (by decide))))
  refine ⟨none, _, _, _, _, X5, (fun _ => rfl), ?_, by decide, by decide, fun fs hr => castTop (ef_7_RRRI m r1 r2 r3 (1 : Int32)) ?_⟩
  · show Q_rm7_1 Z r1 r2 r3 r4 k_r3 n0 h0 _ T5.heap _
    rw [e5]
    exact ⟨rfl, N5, KK5, (V3.other W5 nz4.symm), P1, fc6, fc7, Fw5⟩
  · show Steps p.tables e below (s₁.setTop (mkF m 0 #[.val (.ref r1), .val (.ref r2), .val (.ref r3), .val (.int (1 : Int32))] [])) _
    refine XS.iloadN X0.here hx rfl (hb hby d7_0) rfl ?_
    refine XS.aloadN X0.here hx rfl (hb hby d7_1) rfl rfl ?_
    refine X0.arraylength hx (by rw [e0]; exact Ar1.1) (State.isArrayOf_alike hZ.alike Ar1.2.1) (g := (mkF m 2 #[.val (.ref r1), .val (.ref r2), .val (.ref r3), .val (.int (1 : Int32))] [(.ref r3), (.int (1 : Int32))])) rfl rfl (hb hby d7_2) _ ?_
    rw [len_of Sr1 Nr1]
    refine XS.icmpYes X0.here hx rfl (pc0 := 3) (pc' := 11) rfl (hb hby d7_3) rfl (by decide) (by decide) (by decide) ?_
    refine XS.aloadN X0.here hx rfl (hb hby d7_11) rfl rfl ?_
    refine XS.iloadN X0.here hx rfl (hb hby d7_12) rfl ?_
    refine XS.aloadN X0.here hx rfl (hb hby d7_13) rfl rfl ?_
    refine st3 _ ?_
    show Steps p.tables e below (T3.setTop (mkF m 15 #[.val (.ref r1), .val (.ref r2), .val (.ref r3), .val (.int (1 : Int32))] [])) _
    refine XS.aloadN X3.here hx rfl (hb hby d7_15) rfl rfl ?_
    refine XS.iloadN X3.here hx rfl (hb hby d7_16) rfl ?_
    refine XS.iconst X3.here hx rfl (hb hby d7_17) ?_
    refine XS.iadd X3.here hx rfl (hb hby d7_18) rfl ?_
    show Steps p.tables e below (T3.setTop (mkF m 19 #[.val (.ref r1), .val (.ref r2), .val (.ref r3), .val (.int (1 : Int32))] [(.int ((1 : Int32) + (1 : Int32))), (.ref r1)])) _
    rw [fo_1]
    refine st5 _ ?_
    exact X5.returnOut hx hret (hb hby d7_22) hr
def Q_rm6_1 (Z : State) (r1 : Addr) (r2 : Addr) (r3 : Addr) (r4 : Addr) (k_r3 : ClassId) (n0 : Nat) (h0 : Heap) (v : Option Value) (h : Heap) (L : List Loc) : Prop := v = (some (.int (1 : Int32))) ∧ Fr n0 L ∧ Keep h0 h [r1, r3] ∧ Arv Z h r3 k_r3 (.object sN1) (2 : Int32) [(.ref r4), (.ref r2)] .null ∧ Ovr Z k_r3 sN1 ∧ Fld Z h r1 sN13 "modCount" "I" (.int (2 : Int32)) ∧ Fld Z h r1 sN0 "elementData" sN4 (.ref r3) ∧ Fld Z h r1 sN0 "size" "I" (.int (2 : Int32))
theorem rm6_1 (l : Launch) (Z : State) (a0 : Array Value) (hw : own_HW a0 Z) (r1 : Addr) (r2 : Addr) (r3 : Addr) (r4 : Addr) (k_r3 : ClassId) (h0 : Heap) (n0 : Nat) (O0 : Old Z n0 h0) (P1 : Fld Z h0 r1 sN13 "modCount" "I" (.int (1 : Int32))) (P2 : Exa Z h0 r1 sN0) (P3 : Fld Z h0 r1 sN0 "elementData" sN4 (.ref r3)) (P4 : Fld Z h0 r1 sN0 "size" "I" (.int (1 : Int32))) (P5 : n0 ≤ r1) (P6 : Ovr Z k_r3 sN1) (P7 : Arv Z h0 r3 k_r3 (.object sN1) (2 : Int32) [(.ref r4), .null] .null) (P8 : Exa Z h0 r3 sN4) (P9 : Exa Z h0 r2 sN2) (P10 : n0 ≤ r3) :
    own_Ct l Z yN1 jdk_38_method_25_code 2 (some .boolean) ({ frames := 1, cells := 0, slots := 0, locals := 15 } : Room) #[(.ref r1), (.ref r2)] h0 (Q_rm6_1 Z r1 r2 r3 r4 k_r3 n0 h0) := by
  refine own_enter (own := sN0) rfl (plainFor_of_name pn_3) ?_
  intro p e s m below meth c s₁ X0 hx hby hml hown hnm hret hZ e0
  have N0 := Fr.nil n0
  obtain ⟨T1, X1, e1, st1⟩ := getF X0 hx hZ hown (host := "") (Or.inl (w38 hw)) (Via.of (w39 hw)) e0 P1 (g := (mkF m 2 #[.val (.ref r1), .val (.ref r2)] [(.ref r1), (.ref r1)])) rfl rfl (hb hby d6_2)
  obtain ⟨T2, h2, X2, e2, W2, st2⟩ := putF X1 hx hZ hown (host := "") (Or.inl (w38 hw)) (Via.of (w39 hw)) e1 P1 P2 (Or.inl (w22 hw)) (w1 hw) (ty := .int) (by decide) rfl rfl (g := (mkF m 7 #[.val (.ref r1), .val (.ref r2)] [(.int (2 : Int32)), (.ref r1)])) rfl rfl (hb hby d6_7)
  have Fw2 := P1.same W2
  have KK2 : Keep h0 h2 [r1, r3] := (Keep.refl h0 [r1, r3]).wr W2 (Or.inl (List.mem_of_getElem? (i := 0) rfl))
  have O2 := O0.wr W2 P5
  have N2 := Fr.snoc X2 N0 P5
  have fc3 := (P3.other W2 (Or.inr (slot_ne (Or.inl (w25 hw)) (Or.inl (w22 hw)) (by decide) (t := (.array (.object sN1))) (t' := .int) (by decide) (by decide))))
  obtain ⟨T4, X4, e4, st4⟩ := getF X2 hx hZ hown (host := "") (Or.inl (w24 hw)) Via.refl e2 fc3 (g := (mkF m 13 #[.val (.ref r1), .val (.ref r2)] [(.ref r1), (.ref r2), (.ref r1)])) rfl rfl (hb hby d6_13)
  have fc5 := (P4.other W2 (Or.inr (slot_ne (Or.inl (w41 hw)) (Or.inl (w22 hw)) (by decide) (t := .int) (t' := .int) (by decide) (by decide))))
  obtain ⟨T6, X6, e6, st6⟩ := getF X4 hx hZ hown (host := "") (Or.inl (w40 hw)) Via.refl e4 fc5 (g := (mkF m 17 #[.val (.ref r1), .val (.ref r2)] [(.ref r1), (.ref r3), (.ref r2), (.ref r1)])) rfl rfl (hb hby d6_17)
  have nz7 : r3 ≠ r1 := (ne_exa P8 P2 (by decide))
  obtain ⟨_, T8, L8, X8, hQ8, st8⟩ := own_cP X6 hx hZ hown (w42 hw) (w43 hw) (w45 hw) (w44 hw) (w2 hw) (w46 hw) (P2.wr W2) (rm7_1 l Z a0 hw r1 r2 r3 r4 k_r3 h2 n0 O2 P6 (P7.other W2 nz7) (P9.wr W2) P10 Fw2 (P2.wr W2) (P8.wr W2) fc3 fc5 P5) e6 (hb hby d6_20) hml pd_76 [(.ref r2), (.ref r3), (.int (1 : Int32))] [] (g := (mkF m 20 #[.val (.ref r1), .val (.ref r2)] [(.int (1 : Int32)), (.ref r3), (.ref r2), (.ref r1)]))
  obtain ⟨rfl, N8q, K8, f8_0, ov8_0, f8_1, f8_2, f8_3⟩ := hQ8
  have KK8 : Keep h0 T8.heap [r1, r3] := KK2.trans K8 (allS (Or.inl (List.mem_of_getElem? (i := 1) rfl)) (allS (Or.inl (List.mem_of_getElem? (i := 0) rfl)) all0))
  have O8 := O2.keep K8 (allS P10 (allS P5 all0))
  have N8 := Fr.app N2 N8q
  refine ⟨(some (.int (1 : Int32))), _, _, _, _, X8, (fun h => nomatch h), ?_, by decide, by decide, fun fs hr => castTop (ef_6_RR m r1 r2) ?_⟩
  · show Q_rm6_1 Z r1 r2 r3 r4 k_r3 n0 h0 _ T8.heap _
    exact ⟨rfl, N8, KK8, f8_0, ov8_0, f8_1, f8_2, f8_3⟩
  · show Steps p.tables e below (s₁.setTop (mkF m 0 #[.val (.ref r1), .val (.ref r2)] [])) _
    refine XS.aloadN X0.here hx rfl (hb hby d6_0) rfl rfl ?_
    refine XS.dup X0.here hx rfl (hb hby d6_1) rfl rfl ?_
    refine st1 _ ?_
    refine XS.iconst X1.here hx rfl (hb hby d6_5) ?_
    refine XS.iadd X1.here hx rfl (hb hby d6_6) rfl ?_
    show Steps p.tables e below (T1.setTop (mkF m 7 #[.val (.ref r1), .val (.ref r2)] [(.int ((1 : Int32) + (1 : Int32))), (.ref r1)])) _
    rw [fo_1]
    refine st2 _ ?_
    refine XS.aloadN X2.here hx rfl (hb hby d6_10) rfl rfl ?_
    refine XS.aloadN X2.here hx rfl (hb hby d6_11) rfl rfl ?_
    refine XS.aloadN X2.here hx rfl (hb hby d6_12) rfl rfl ?_
    refine st4 _ ?_
    refine XS.aloadN X4.here hx rfl (hb hby d6_16) rfl rfl ?_
    refine st6 _ ?_
    show Steps p.tables e below (T6.setTop (mkF m 20 #[.val (.ref r1), .val (.ref r2)] [(.int (1 : Int32)), (.ref r3), (.ref r2), (.ref r1)])) _
    refine st8 _ ?_
    refine XS.iconst X8.here hx rfl (hb hby d6_23) ?_
    exact retN X8 hx (t := .boolean) hret (by simp) (hb hby d6_24) hr
theorem rm24_3 (l : Launch) (Z : State) (a0 : Array Value) (hw : ∀ d ∈ tables_1, d.before a0 Z = true)  (h0 : Heap) (n0 : Nat) (O0 : Old Z n0 h0)  :
    MetFree l yN4 (head1 [Jvm.Cond.code yN4 jdk_29_method_69_code 2 (some .int)] ({ frames := 0, cells := 0, slots := 0, locals := 0 } : Room)) (fun a U => a = #[(.int (2 : Int32)), (.int (2 : Int32))] ∧ Z.Warmed39 U.vm ∧ U.heap = h0) (fun _ _ _ _ _ => True) (fun _ U o U' => ∃ v L, o = .returned v ∧ own_QP (some (.int (2 : Int32))) n0 h0 v U'.heap L ∧ FrameEnd U o U' L ({ frames := 0, cells := 0, slots := 0, locals := 0 } : Room).cells ({ frames := 0, cells := 0, slots := 0, locals := 0 } : Room).slots) := by
  refine MetFree.of_bodySF (Jvm.Free.JP.mathPlain rfl (by decide +kernel)) hisR ?_
  intro p e s m args below meth c s₁ Bd hml0 hP hK
  obtain ⟨rfl, hZ, hh⟩ := hP
  have hx := Bd.exec
  have hby := Bd.bytes
  have hml : c.maxLocals = 2 := hml0
  have hown : s.vm.findClass sN27 = some m.cls := findClass_of_methodNamed Bd.named
  have hnm := (name_of_methodNamed Bd.named Bd.method).1
  have X0 : Stand p l e ({ frames := 0, cells := 0, slots := 0, locals := 0 } : Room) s m #[(.int (2 : Int32)), (.int (2 : Int32))] below meth c s₁ [] 0 0 := Stand.of_body Bd
  have e0 : s₁.heap = h0 := by rw [← hh, Bd.state]; rfl
  have N0 := Fr.nil n0
  have pre0 : ∀ t, Steps p.tables e below (s₁.setTop (mkF m 0 #[.val (.int (2 : Int32)), .val (.int (2 : Int32))] [])) t → Steps p.tables e below (s₁.setTop (entryFrame m #[(.int (2 : Int32)), (.int (2 : Int32))] 2)) t := fun t k => castTop (ef_24_II m (2 : Int32) (2 : Int32)) k
  obtain ⟨fs, hr, hrun, hended, hW, hsame⟩ := X0.leave (v := (some (.int (2 : Int32)))) (fun h => by rw [Bd.returns] at h; cases h)
  refine ⟨_, _, pre0 _ ?_, hrun, hended, _, _, rfl, ?_, ⟨_, rfl⟩, hW, hsame.mono (by decide) (by decide)⟩
  · show Steps p.tables e below (s₁.setTop (mkF m 0 #[.val (.int (2 : Int32)), .val (.int (2 : Int32))] [])) _
    refine XS.iloadN X0.here hx rfl (hb hby d24_0) rfl ?_
    refine XS.iloadN X0.here hx rfl (hb hby d24_1) rfl ?_
    refine XS.icmpNo X0.here hx rfl (hb hby d24_2) rfl (by decide) ?_
    refine XS.iloadN X0.here hx rfl (hb hby d24_5) rfl ?_
    refine XS.goto X0.here hx rfl (pc0 := 6) (pc' := 10) rfl (hb hby d24_6) (by decide) (by decide) ?_
    exact retI X0 hx Bd.returns (hb hby d24_10) hr
  · show own_QP (some (.int (2 : Int32))) n0 h0 _ s₁.heap _
    rw [e0]
    exact ⟨rfl, N0, rfl⟩
def Q_rm23_3 (Z : State) (r1 : Addr) (w_MIR : Addr) (r2 : Addr) (r3 : Addr) (k_r1 : ClassId) (n0 : Nat) (h0 : Heap) (v : Option Value) (h : Heap) (L : List Loc) : Prop := ∃ b2 : Addr, ∃ k2 : ClassId, v = (some (.ref b2)) ∧ Fr n0 L ∧ Keep h0 h [] ∧ h0.size ≤ b2 ∧ Exa Z h b2 sN4 ∧ Arv Z h b2 k2 (.object sN1) (2 : Int32) [(.ref r2), (.ref r3)] .null ∧ Ovr Z k2 sN1
theorem rm23_3 (l : Launch) (Z : State) (a0 : Array Value) (hw : own_HW a0 Z) (r1 : Addr) (w_MIR : Addr) (r2 : Addr) (r3 : Addr) (k_r1 : ClassId) (h0 : Heap) (n0 : Nat) (O0 : Old Z n0 h0) (P1 : Mir Z sN4 w_MIR) (P2 : Ovr Z k_r1 sN1) (P3 : Arv Z h0 r1 k_r1 (.object sN1) (2 : Int32) [(.ref r2), (.ref r3)] .null) (P4 : Exa Z h0 r3 sN2) (P5 : Exa Z h0 r2 sN2) :
    own_Ct l Z yN21 jdk_65_method_120_code 4 (some (.array (.object sN1))) ({ frames := 1, cells := 1, slots := 2, locals := 60 } : Room) #[(.ref r1), (.int (2 : Int32)), (.ref w_MIR)] h0 (Q_rm23_3 Z r1 w_MIR r2 r3 k_r1 n0 h0) := by
  refine own_enter (own := sN20) rfl (plainFor_of_name pn_27) ?_
  intro p e s m below meth c s₁ X0 hx hby hml hown hnm hret hZ e0
  have N0 := Fr.nil n0
  obtain ⟨T1, X1, e1, st1⟩ := own_ldcM X0 hx hZ hown (w186 hw) e0 P1 (g := (mkF m 1 #[.val (.ref r1), .val (.int (2 : Int32)), .val (.ref w_MIR), .unset] [(.ref w_MIR)])) rfl (hb hby d23_1)
  obtain ⟨T2, h2, k2, X2, e2, E2, A2, Ea2, Ov2, st2⟩ := newRE X1 hx hZ hown (w187 hw) (w62 hw) e1 (g := (mkF m 7 #[.val (.ref r1), .val (.int (2 : Int32)), .val (.ref w_MIR), .unset] [(.int (2 : Int32))])) rfl (hb hby d23_7) rfl (by decide) (cap := 2) (by decide) (by decide) (by decide) (by decide) (ad := sN4) (by decide)
  obtain ⟨b2, gq2⟩ : ∃ z, z = h0.size := ⟨_, rfl⟩
  rw [← gq2] at A2 st2 Ea2
  have g_b2 : n0 ≤ b2 := Nat.le_trans ((O0.1 ▸ O0.2.1) : n0 ≤ h0.size) (Nat.le_of_eq gq2.symm)
  have sz_b2 : h0.size ≤ b2 := Nat.le_trans (Keep.refl h0 []).1 (Nat.le_of_eq gq2.symm)
  have KK2 : Keep h0 h2 [] := (Keep.refl h0 []).ext E2
  have O2 := O0.ext E2
  have V2 : Arv Z h2 b2 k2 (.object sN1) (2 : Int32) [.null, .null] .null := (Arv.new A2 (by decide)).pad (pad_rep [] .null 2)
  obtain ⟨cl3, Ar3, -, Sr3, Nr3, -, -⟩ := id (P3.ext E2)
  obtain ⟨_, T4, L4, X4, hQ4, st4⟩ := own_cS X2 hx hZ hown (w188 hw) (w189 hw) (w59 hw) (w190 hw) (rm24_3 l Z a0 hw  h2 n0 O2 ) e2 (hb hby d23_32) hml pd_26 [(.int (2 : Int32)), (.int (2 : Int32))] [(.int (0 : Int32)), (.ref b2), (.int (0 : Int32)), (.ref r1)] (g := (mkF m 32 #[.val (.ref r1), .val (.int (2 : Int32)), .val (.ref w_MIR), .val (.ref b2)] [(.int (2 : Int32)), (.int (2 : Int32)), (.int (0 : Int32)), (.ref b2), (.int (0 : Int32)), (.ref r1)]))
  obtain ⟨rfl, N4q, e4⟩ := hQ4
  have N4 := Fr.app N0 N4q
  obtain ⟨cb5, Ab5, qb5, -⟩ := id V2
  obtain ⟨T6, h6, L6, X6, e6, N6, K6, V6, st6⟩ := cpA X4 hx hZ hown (w191 hw) (w194 hw) (w192 hw) (w193 hw) e4 (us := [(.ref r2), (.ref r3)]) (P3.ext E2) V2 (Or.inr ⟨rfl, rfl, ⟨Sto.ofV Ab5 qb5 Ov2 (Ins.of_exa (P5.ext E2) (w248 hw)), ⟨Sto.ofV Ab5 qb5 Ov2 (Ins.of_exa (P4.ext E2) (w248 hw)), trivial⟩⟩⟩) (by decide) (by decide) (by decide) (by decide) (by decide) rfl (by decide) N4 g_b2 (g := (mkF m 35 #[.val (.ref r1), .val (.int (2 : Int32)), .val (.ref w_MIR), .val (.ref b2)] [(.int (2 : Int32)), (.int (0 : Int32)), (.ref b2), (.int (0 : Int32)), (.ref r1)])) rfl (by rw [hml]; rfl) rfl (hb hby d23_35) (by decide) (W := 0) (by show 2 * 0 + _ ≤ _; exact Nat.le_of_eq rfl) (by decide)
  have KK6 : Keep h0 h6 [] := KK2.trans K6 (allS (Or.inr sz_b2) all0)
  have O6 := O2.keep K6 (allS g_b2 all0)
  refine ⟨(some (.ref b2)), _, _, _, _, X6, (fun h => nomatch h), ?_, by decide, by decide, fun fs hr => castTop (ef_23_RIR m r1 (2 : Int32) w_MIR) ?_⟩
  · show Q_rm23_3 Z r1 w_MIR r2 r3 k_r1 n0 h0 _ T6.heap _
    rw [e6]
    exact ⟨b2, k2, rfl, N6, KK6, sz_b2, (Ea2.keep K6), V6, Ov2⟩
  · show Steps p.tables e below (s₁.setTop (mkF m 0 #[.val (.ref r1), .val (.int (2 : Int32)), .val (.ref w_MIR), .unset] [])) _
    refine XS.aloadN X0.here hx rfl (hb hby d23_0) rfl rfl ?_
    refine st1 _ ?_
    refine Jvm.RoadKit.acmp (g := (mkF m 3 #[.val (.ref r1), .val (.int (2 : Int32)), .val (.ref w_MIR), .unset] [(.ref w_MIR), (.ref w_MIR)])) X1 hx rfl rfl rfl (pc0 := 3) (pc' := 6) (same := true) rfl (hb hby d23_3) rfl (decide_eq_true rfl) (by decide) (by decide) ?_
    refine XS.iloadN X1.here hx rfl (hb hby d23_6) rfl ?_
    refine st2 _ ?_
    refine XS.goto X2.here hx rfl (pc0 := 10) (pc' := 24) rfl (hb hby d23_10) (by decide) (by decide) ?_
    refine XS.astoreN X2.here hx rfl (hb hby d23_24) rfl rfl (l' := #[.val (.ref r1), .val (.int (2 : Int32)), .val (.ref w_MIR), .val (.ref b2)]) rfl ?_
    refine XS.aloadN X2.here hx rfl (hb hby d23_25) rfl rfl ?_
    show Steps p.tables e below (T2.setTop (mkF m 26 #[.val (.ref r1), .val (.int (2 : Int32)), .val (.ref w_MIR), .val (.ref b2)] [(.ref r1)])) _
    refine XS.iconst X2.here hx rfl (hb hby d23_26) ?_
    refine XS.aloadN X2.here hx rfl (hb hby d23_27) rfl rfl ?_
    refine XS.iconst X2.here hx rfl (hb hby d23_28) ?_
    refine XS.aloadN X2.here hx rfl (hb hby d23_29) rfl rfl ?_
    refine X2.arraylength hx (by rw [e2]; exact Ar3.1) (State.isArrayOf_alike hZ.alike Ar3.2.1) (g := (mkF m 30 #[.val (.ref r1), .val (.int (2 : Int32)), .val (.ref w_MIR), .val (.ref b2)] [(.ref r1), (.int (0 : Int32)), (.ref b2), (.int (0 : Int32)), (.ref r1)])) rfl rfl (hb hby d23_30) _ ?_
    rw [len_of Sr3 Nr3]
    refine XS.iloadN X2.here hx rfl (hb hby d23_31) rfl ?_
    refine st4 _ ?_
    refine st6 _ ?_
    show Steps p.tables e below (T6.setTop (mkF m 38 #[.val (.ref r1), .val (.int (2 : Int32)), .val (.ref w_MIR), .val (.ref b2)] [])) _
    refine XS.aloadN X6.here hx rfl (hb hby d23_38) rfl rfl ?_
    exact retA X6 hx hret rfl rfl rfl (hb hby d23_39) hr
def Q_rm22_3 (Z : State) (r1 : Addr) (w_MIR : Addr) (r2 : Addr) (r3 : Addr) (k_r1 : ClassId) (n0 : Nat) (h0 : Heap) (v : Option Value) (h : Heap) (L : List Loc) : Prop := ∃ b2_0 : Addr, ∃ kc2_0 : ClassId, v = (some (.ref b2_0)) ∧ Fr n0 L ∧ Keep h0 h [] ∧ h0.size ≤ b2_0 ∧ Exa Z h b2_0 sN4 ∧ Arv Z h b2_0 kc2_0 (.object sN1) (2 : Int32) [(.ref r2), (.ref r3)] .null ∧ Ovr Z kc2_0 sN1
theorem rm22_3 (l : Launch) (Z : State) (a0 : Array Value) (hw : own_HW a0 Z) (r1 : Addr) (w_MIR : Addr) (r2 : Addr) (r3 : Addr) (k_r1 : ClassId) (h0 : Heap) (n0 : Nat) (O0 : Old Z n0 h0) (P1 : Exa Z h0 r1 sN4) (P2 : Mir Z sN4 w_MIR) (P3 : Ovr Z k_r1 sN1) (P4 : Arv Z h0 r1 k_r1 (.object sN1) (2 : Int32) [(.ref r2), (.ref r3)] .null) (P5 : Exa Z h0 r3 sN2) (P6 : Exa Z h0 r2 sN2) :
    own_Ct l Z yN20 jdk_65_method_119_code 2 (some (.array (.object sN1))) ({ frames := 2, cells := 1, slots := 2, locals := 75 } : Room) #[(.ref r1), (.int (2 : Int32))] h0 (Q_rm22_3 Z r1 w_MIR r2 r3 k_r1 n0 h0) := by
  refine own_enter (own := sN20) rfl (plainFor_of_name pn_27) ?_
  intro p e s m below meth c s₁ X0 hx hby hml hown hnm hret hZ e0
  have N0 := Fr.nil n0
  obtain ⟨T1, X1, e1, st1⟩ := gcls X0 hx hZ hown (w177 hw) (w178 hw) (w94 hw) (w180 hw) (w179 hw) (w181 hw) e0 P1 P2 (g := (mkF m 3 #[.val (.ref r1), .val (.int (2 : Int32))] [(.ref r1), (.int (2 : Int32)), (.ref r1)])) rfl (by rw [hml]; rfl) rfl (hb hby d22_3) (by decide) (W := 2) (by show 2 * 0 + _ ≤ _; exact Nat.le_of_eq rfl) (by decide)
  obtain ⟨_, T2, L2, X2, hQ2, st2⟩ := own_cS X1 hx hZ hown (w183 hw) (w184 hw) (w175 hw) (w185 hw) (rm23_3 l Z a0 hw r1 w_MIR r2 r3 k_r1 h0 n0 O0 P2 P3 P4 P5 P6) e1 (hb hby d22_6) hml pd_29 [(.ref r1), (.int (2 : Int32)), (.ref w_MIR)] [] (g := (mkF m 6 #[.val (.ref r1), .val (.int (2 : Int32))] [(.ref w_MIR), (.int (2 : Int32)), (.ref r1)]))
  obtain ⟨b2_0, kc2_0, rfl, N2q, K2, ge_b2_0, f2_0, f2_1, ov2_1⟩ := hQ2
  have g_b2_0 : n0 ≤ b2_0 := Nat.le_trans ((O0.1 ▸ O0.2.1) : n0 ≤ h0.size) ge_b2_0
  have sz_b2_0 : h0.size ≤ b2_0 := Nat.le_trans (Keep.refl h0 []).1 ge_b2_0
  have KK2 : Keep h0 T2.heap [] := (Keep.refl h0 []).trans K2 all0
  have O2 := O0.keep K2 all0
  have N2 := Fr.app N0 N2q
  refine ⟨(some (.ref b2_0)), _, _, _, _, X2, (fun h => nomatch h), ?_, by decide, by decide, fun fs hr => castTop (ef_22_RI m r1 (2 : Int32)) ?_⟩
  · show Q_rm22_3 Z r1 w_MIR r2 r3 k_r1 n0 h0 _ T2.heap _
    exact ⟨b2_0, kc2_0, rfl, N2, KK2, sz_b2_0, f2_0, f2_1, ov2_1⟩
  · show Steps p.tables e below (s₁.setTop (mkF m 0 #[.val (.ref r1), .val (.int (2 : Int32))] [])) _
    refine XS.aloadN X0.here hx rfl (hb hby d22_0) rfl rfl ?_
    refine XS.iloadN X0.here hx rfl (hb hby d22_1) rfl ?_
    refine XS.aloadN X0.here hx rfl (hb hby d22_2) rfl rfl ?_
    refine st1 _ ?_
    refine st2 _ ?_
    exact retA X2 hx hret rfl rfl rfl (hb hby d22_9) hr
def Q_rm21_3 (Z : State) (r1 : Addr) (r2 : Addr) (w_MIR : Addr) (r3 : Addr) (r4 : Addr) (k_r2 : ClassId) (n0 : Nat) (h0 : Heap) (v : Option Value) (h : Heap) (L : List Loc) : Prop := ∃ b3_0 : Addr, ∃ kc3_0 : ClassId, v = (some (.ref b3_0)) ∧ Fr n0 L ∧ Keep h0 h [] ∧ h0.size ≤ b3_0 ∧ Exa Z h b3_0 sN4 ∧ Arv Z h b3_0 kc3_0 (.object sN1) (2 : Int32) [(.ref r3), (.ref r4)] .null ∧ Ovr Z kc3_0 sN1
theorem rm21_3 (l : Launch) (Z : State) (a0 : Array Value) (hw : own_HW a0 Z) (r1 : Addr) (r2 : Addr) (w_MIR : Addr) (r3 : Addr) (r4 : Addr) (k_r2 : ClassId) (h0 : Heap) (n0 : Nat) (O0 : Old Z n0 h0) (P1 : Fld Z h0 r1 sN0 "elementData" sN4 (.ref r2)) (P2 : Fld Z h0 r1 sN0 "size" "I" (.int (2 : Int32))) (P3 : Exa Z h0 r2 sN4) (P4 : Mir Z sN4 w_MIR) (P5 : Ovr Z k_r2 sN1) (P6 : Arv Z h0 r2 k_r2 (.object sN1) (2 : Int32) [(.ref r3), (.ref r4)] .null) (P7 : Exa Z h0 r4 sN2) (P8 : Exa Z h0 r3 sN2) :
    own_Ct l Z yN14 jdk_38_method_16_code 1 (some (.array (.object sN1))) ({ frames := 3, cells := 1, slots := 2, locals := 88 } : Room) #[(.ref r1)] h0 (Q_rm21_3 Z r1 r2 w_MIR r3 r4 k_r2 n0 h0) := by
  refine own_enter (own := sN0) rfl (plainFor_of_name pn_3) ?_
  intro p e s m below meth c s₁ X0 hx hby hml hown hnm hret hZ e0
  have N0 := Fr.nil n0
  obtain ⟨T1, X1, e1, st1⟩ := getF X0 hx hZ hown (host := "") (Or.inl (w24 hw)) Via.refl e0 P1 (g := (mkF m 1 #[.val (.ref r1)] [(.ref r1)])) rfl rfl (hb hby d21_1)
  obtain ⟨T2, X2, e2, st2⟩ := getF X1 hx hZ hown (host := "") (Or.inl (w40 hw)) Via.refl e1 P2 (g := (mkF m 5 #[.val (.ref r1)] [(.ref r1), (.ref r2)])) rfl rfl (hb hby d21_5)
  obtain ⟨_, T3, L3, X3, hQ3, st3⟩ := own_cS X2 hx hZ hown (w173 hw) (w174 hw) (w175 hw) (w176 hw) (rm22_3 l Z a0 hw r2 w_MIR r3 r4 k_r2 h0 n0 O0 P3 P4 P5 P6 P7 P8) e2 (hb hby d21_8) hml pd_31 [(.ref r2), (.int (2 : Int32))] [] (g := (mkF m 8 #[.val (.ref r1)] [(.int (2 : Int32)), (.ref r2)]))
  obtain ⟨b3_0, kc3_0, rfl, N3q, K3, ge_b3_0, f3_0, f3_1, ov3_1⟩ := hQ3
  have g_b3_0 : n0 ≤ b3_0 := Nat.le_trans ((O0.1 ▸ O0.2.1) : n0 ≤ h0.size) ge_b3_0
  have sz_b3_0 : h0.size ≤ b3_0 := Nat.le_trans (Keep.refl h0 []).1 ge_b3_0
  have KK3 : Keep h0 T3.heap [] := (Keep.refl h0 []).trans K3 all0
  have O3 := O0.keep K3 all0
  have N3 := Fr.app N0 N3q
  refine ⟨(some (.ref b3_0)), _, _, _, _, X3, (fun h => nomatch h), ?_, by decide, by decide, fun fs hr => castTop (ef_21_R m r1) ?_⟩
  · show Q_rm21_3 Z r1 r2 w_MIR r3 r4 k_r2 n0 h0 _ T3.heap _
    exact ⟨b3_0, kc3_0, rfl, N3, KK3, sz_b3_0, f3_0, f3_1, ov3_1⟩
  · show Steps p.tables e below (s₁.setTop (mkF m 0 #[.val (.ref r1)] [])) _
    refine XS.aloadN X0.here hx rfl (hb hby d21_0) rfl rfl ?_
    refine st1 _ ?_
    refine XS.aloadN X1.here hx rfl (hb hby d21_4) rfl rfl ?_
    refine st2 _ ?_
    refine st3 _ ?_
    exact retA X3 hx hret rfl rfl rfl (hb hby d21_11) hr
theorem rm12_4 (l : Launch) (Z : State) (a0 : Array Value) (hw : own_HW a0 Z) (r1 : Addr) (h0 : Heap) (n0 : Nat) (O0 : Old Z n0 h0)  :
    own_Ct l Z yN5 jdk_31_method_10_code 1 (some (.object sN1)) ({ frames := 0, cells := 0, slots := 0, locals := 0 } : Room) #[(.ref r1)] h0 (own_QP (some (.ref r1)) n0 h0) := by
  refine own_enter (own := sN25) rfl (plainFor_of_name pn_0) ?_
  intro p e s m below meth c s₁ X0 hx hby hml hown hnm hret hZ e0
  have N0 := Fr.nil n0
  refine ⟨(some (.ref r1)), _, _, _, _, X0, (fun h => nomatch h), ?_, by decide, by decide, fun fs hr => castTop (ef_12_R m r1) ?_⟩
  · show own_QP (some (.ref r1)) n0 h0 _ s₁.heap _
    rw [e0]
    exact ⟨rfl, N0, rfl⟩
  · show Steps p.tables e below (s₁.setTop (mkF m 0 #[.val (.ref r1)] [])) _
    refine XS.aloadN X0.here hx rfl (hb hby d12_0) rfl rfl ?_
    refine XS.ifnonnullYes X0.here hx rfl (pc0 := 1) (pc' := 12) rfl (hb hby d12_1) rfl (by decide) (by decide) ?_
    refine XS.aloadN X0.here hx rfl (hb hby d12_12) rfl rfl ?_
    exact retA X0 hx hret rfl rfl rfl (hb hby d12_13) hr
def Q_rm49_1 (Z : State) (r1 : Addr) (r2 : Addr) (r3 : Addr) (n0 : Nat) (h0 : Heap) (v : Option Value) (h : Heap) (L : List Loc) : Prop := v = none ∧ Fr n0 L ∧ Keep h0 h [r1] ∧ Fld Z h r1 sN6 "e0" sN11 (.ref r2) ∧ Fld Z h r1 sN6 "e1" sN11 (.ref r3)
theorem rm49_1 (l : Launch) (Z : State) (a0 : Array Value) (hw : own_HW a0 Z) (r1 : Addr) (r2 : Addr) (r3 : Addr) (h0 : Heap) (n0 : Nat) (O0 : Old Z n0 h0) (P1 : Exa Z h0 r1 sN6) (P2 : Fld Z h0 r1 sN6 "e0" sN11 .null) (P3 : Fld Z h0 r1 sN6 "e1" sN11 .null) (P4 : n0 ≤ r1) :
    own_Ct l Z yN42 jdk_44_method_2_code 3 none ({ frames := 4, cells := 0, slots := 0, locals := 48 } : Room) #[(.ref r1), (.ref r2), (.ref r3)] h0 (Q_rm49_1 Z r1 r2 r3 n0 h0) := by
  refine own_enter (own := sN6) rfl (plainFor_of_name pn_40) ?_
  intro p e s m below meth c s₁ X0 hx hby hml hown hnm hret hZ e0
  have N0 := Fr.nil n0
  obtain ⟨_, T1, L1, X1, hQ1, st1⟩ := own_cI X0 hx hZ hown rfl (w343 hw) (w209 hw) (w134 hw) (w212 hw) (rm28_0 l Z a0 hw r1 h0 n0 O0 ) e0 (hb hby d49_1) hml pd_36 [] [] (g := (mkF m 1 #[.val (.ref r1), .val (.ref r2), .val (.ref r3)] [(.ref r1)]))
  obtain ⟨rfl, N1q, e1⟩ := hQ1
  have N1 := Fr.app N0 N1q
  obtain ⟨_, T2, L2, X2, hQ2, st2⟩ := own_cS X1 hx hZ hown (w347 hw) (w75 hw) (w76 hw) (w77 hw) (rm12_4 l Z a0 hw r2 h0 n0 O0 ) e1 (hb hby d49_6) hml pd_2 [(.ref r2)] [(.ref r1)] (g := (mkF m 6 #[.val (.ref r1), .val (.ref r2), .val (.ref r3)] [(.ref r2), (.ref r1)]))
  obtain ⟨rfl, N2q, e2⟩ := hQ2
  have N2 := Fr.app N1 N2q
  obtain ⟨T3, h3, X3, e3, W3, st3⟩ := putF X2 hx hZ hown (host := "") (Or.inl (w348 hw)) Via.refl e2 P2 P1 (Or.inr ⟨(w349 hw), rfl, hnm⟩) (w337 hw) (ty := (.object sN1)) (by decide) rfl rfl (g := (mkF m 9 #[.val (.ref r1), .val (.ref r2), .val (.ref r3)] [(.ref r2), (.ref r1)])) rfl rfl (hb hby d49_9)
  have Fw3 := P2.same W3
  have KK3 : Keep h0 h3 [r1] := (Keep.refl h0 [r1]).wr W3 (Or.inl (List.mem_of_getElem? (i := 0) rfl))
  have O3 := O0.wr W3 P4
  have N3 := Fr.snoc X3 N2 P4
  obtain ⟨_, T4, L4, X4, hQ4, st4⟩ := own_cS X3 hx hZ hown (w347 hw) (w75 hw) (w76 hw) (w77 hw) (rm12_4 l Z a0 hw r3 h3 n0 O3 ) e3 (hb hby d49_14) hml pd_2 [(.ref r3)] [(.ref r1)] (g := (mkF m 14 #[.val (.ref r1), .val (.ref r2), .val (.ref r3)] [(.ref r3), (.ref r1)]))
  obtain ⟨rfl, N4q, e4⟩ := hQ4
  have N4 := Fr.app N3 N4q
  have fc5 := (P3.other W3 (Or.inr (slot_ne (Or.inr (w352 hw)) (Or.inr (w349 hw)) (by decide) (t := (.object sN1)) (t' := (.object sN1)) (by decide) (by decide))))
  obtain ⟨T6, h6, X6, e6, W6, st6⟩ := putF X4 hx hZ hown (host := "") (Or.inl (w351 hw)) Via.refl e4 fc5 (P1.wr W3) (Or.inr ⟨(w352 hw), rfl, hnm⟩) (w337 hw) (ty := (.object sN1)) (by decide) rfl rfl (g := (mkF m 17 #[.val (.ref r1), .val (.ref r2), .val (.ref r3)] [(.ref r3), (.ref r1)])) rfl rfl (hb hby d49_17)
  have Fw6 := fc5.same W6
  have KK6 : Keep h0 h6 [r1] := KK3.wr W6 (Or.inl (List.mem_of_getElem? (i := 0) rfl))
  have O6 := O3.wr W6 P4
  have N6 := Fr.snoc X6 N4 P4
  have fc7 := (Fw3.other W6 (Or.inr (slot_ne (Or.inr (w349 hw)) (Or.inr (w352 hw)) (by decide) (t := (.object sN1)) (t' := (.object sN1)) (by decide) (by decide))))
  refine ⟨none, _, _, _, _, X6, (fun _ => rfl), ?_, by decide, by decide, fun fs hr => castTop (ef_49_RRR m r1 r2 r3) ?_⟩
  · show Q_rm49_1 Z r1 r2 r3 n0 h0 _ T6.heap _
    rw [e6]
    exact ⟨rfl, N6, KK6, fc7, Fw6⟩
  · show Steps p.tables e below (s₁.setTop (mkF m 0 #[.val (.ref r1), .val (.ref r2), .val (.ref r3)] [])) _
    refine XS.aloadN X0.here hx rfl (hb hby d49_0) rfl rfl ?_
    refine st1 _ ?_
    refine XS.aloadN X1.here hx rfl (hb hby d49_4) rfl rfl ?_
    refine XS.aloadN X1.here hx rfl (hb hby d49_5) rfl rfl ?_
    refine st2 _ ?_
    refine st3 _ ?_
    refine XS.aloadN X3.here hx rfl (hb hby d49_12) rfl rfl ?_
    refine XS.aloadN X3.here hx rfl (hb hby d49_13) rfl rfl ?_
    show Steps p.tables e below (T3.setTop (mkF m 14 #[.val (.ref r1), .val (.ref r2), .val (.ref r3)] [(.ref r3), (.ref r1)])) _
    refine st4 _ ?_
    refine st6 _ ?_
    exact X6.returnOut hx hret (hb hby d49_20) hr
def Q_rm25_3 (Z : State) (r1 : Addr) (r2 : Addr) (r3 : Addr) (k_r1 : ClassId) (n0 : Nat) (h0 : Heap) (v : Option Value) (h : Heap) (L : List Loc) : Prop := ∃ b2 : Addr, v = (some (.ref b2)) ∧ Fr n0 L ∧ Keep h0 h [] ∧ h0.size ≤ b2 ∧ Exa Z h b2 sN6 ∧ Fld Z h b2 sN6 "e0" sN11 (.ref r2) ∧ Fld Z h b2 sN6 "e1" sN11 (.ref r3)
theorem rm25_3 (l : Launch) (Z : State) (a0 : Array Value) (hw : own_HW a0 Z) (r1 : Addr) (r2 : Addr) (r3 : Addr) (k_r1 : ClassId) (h0 : Heap) (n0 : Nat) (O0 : Old Z n0 h0) (P1 : Ovr Z k_r1 sN1) (P2 : Arv Z h0 r1 k_r1 (.object sN1) (2 : Int32) [(.ref r2), (.ref r3)] .null) :
    own_Ct l Z yN22 jdk_40_method_47_code 2 (some (.object sN3)) ({ frames := 5, cells := 1, slots := 2, locals := 63 } : Room) #[(.ref r1)] h0 (Q_rm25_3 Z r1 r2 r3 k_r1 n0 h0) := by
  refine own_enter (own := sN3) rfl (plainFor_of_name pn_6) ?_
  intro p e s m below meth c s₁ X0 hx hby hml hown hnm hret hZ e0
  have N0 := Fr.nil n0
  obtain ⟨cl1, Ar1, -, Sr1, Nr1, -, -⟩ := id P2
  obtain ⟨T2, h2, X2, e2, E2, A2, D2, -, st2⟩ := newO X0 hx hZ hown (w336 hw) (w337 hw) (w338 hw) e0 (g := (mkF m 45 #[.val (.ref r1), .unset] [])) rfl (hb hby d25_45) (by decide) (by decide)
  obtain ⟨b2, gq2⟩ : ∃ z, z = h0.size := ⟨_, rfl⟩
  rw [← gq2] at A2 D2 st2
  have g_b2 : n0 ≤ b2 := Nat.le_trans ((O0.1 ▸ O0.2.1) : n0 ≤ h0.size) (Nat.le_of_eq gq2.symm)
  have sz_b2 : h0.size ≤ b2 := Nat.le_trans (Keep.refl h0 []).1 (Nat.le_of_eq gq2.symm)
  have KK2 : Keep h0 h2 [] := (Keep.refl h0 []).ext E2
  have O2 := O0.ext E2
  have F_e0_b2 : Fld Z h2 b2 sN6 "e0" sN11 .null := D2 (Or.inr (w349 hw)) (ty := (.object sN1)) (by decide)
  have F_e1_b2 : Fld Z h2 b2 sN6 "e1" sN11 .null := D2 (Or.inr (w352 hw)) (ty := (.object sN1)) (by decide)
  obtain ⟨cl3, Ar3, -, Sr3, -, Hr3, -⟩ := id (P2.ext E2)
  have hin3 : ¬ ((0 : Int32) < 0 ∨ cl3.slots.size ≤ ((0 : Int32) : Int32).toNatClampNeg) := inb_of Sr3 ⟨by decide, by decide⟩
  have hat3 : cl3.slots[((0 : Int32) : Int32).toNatClampNeg]? = some (.ref r2) := Has.at Hr3 hin3 rfl
  obtain ⟨cl4, Ar4, -, Sr4, -, Hr4, -⟩ := id (P2.ext E2)
  have hin4 : ¬ ((1 : Int32) < 0 ∨ cl4.slots.size ≤ ((1 : Int32) : Int32).toNatClampNeg) := inb_of Sr4 ⟨by decide, by decide⟩
  have hat4 : cl4.slots[((1 : Int32) : Int32).toNatClampNeg]? = some (.ref r3) := Has.at Hr4 hin4 rfl
  obtain ⟨_, T5, L5, X5, hQ5, st5⟩ := own_cI X2 hx hZ hown rfl (w367 hw) (w368 hw) (w338 hw) (w369 hw) (rm49_1 l Z a0 hw b2 r2 r3 h2 n0 O2 A2 F_e0_b2 F_e1_b2 g_b2) e2 (hb hby d25_55) hml pd_54 [(.ref r2), (.ref r3)] [(.ref b2)] (g := (mkF m 55 #[.val (.ref r1), .unset] [(.ref r3), (.ref r2), (.ref b2), (.ref b2)]))
  obtain ⟨rfl, N5q, K5, f5_0, f5_1⟩ := hQ5
  have KK5 : Keep h0 T5.heap [] := KK2.trans K5 (allS (Or.inr sz_b2) all0)
  have O5 := O2.keep K5 (allS g_b2 all0)
  have N5 := Fr.app N0 N5q
  refine ⟨(some (.ref b2)), _, _, _, _, X5, (fun h => nomatch h), ?_, by decide, by decide, fun fs hr => castTop (ef_25_R m r1) ?_⟩
  · show Q_rm25_3 Z r1 r2 r3 k_r1 n0 h0 _ T5.heap _
    exact ⟨b2, rfl, N5, KK5, sz_b2, (A2.keep K5), f5_0, f5_1⟩
  · show Steps p.tables e below (s₁.setTop (mkF m 0 #[.val (.ref r1), .unset] [])) _
    refine XS.aloadN X0.here hx rfl (hb hby d25_0) rfl rfl ?_
    refine X0.arraylength hx (by rw [e0]; exact Ar1.1) (State.isArrayOf_alike hZ.alike Ar1.2.1) (g := (mkF m 1 #[.val (.ref r1), .unset] [(.ref r1)])) rfl rfl (hb hby d25_1) _ ?_
    rw [len_of Sr1 Nr1]
    refine XS.tswIn X0.here hx rfl (pc0 := 2) (pc' := 45) rfl (hb hby d25_2) rfl (by decide) (o := 43) (by decide) (by decide) (by decide) ?_
    refine st2 _ ?_
    refine XS.dup X2.here hx rfl (hb hby d25_48) rfl rfl ?_
    refine XS.aloadN X2.here hx rfl (hb hby d25_49) rfl rfl ?_
    refine XS.iconst X2.here hx rfl (hb hby d25_50) ?_
    refine X2.aaload hx (j := (0 : Int32)) (v := (.ref r2)) (by rw [e2]; exact Ar3.1) (State.isArrayOf_alike hZ.alike Ar3.2.1) rfl Ar3.2.2 hin3 hat3 (g := (mkF m 51 #[.val (.ref r1), .unset] [(.int (0 : Int32)), (.ref r1), (.ref b2), (.ref b2)])) rfl rfl (hb hby d25_51) _ ?_
    show Steps p.tables e below (T2.setTop (mkF m 52 #[.val (.ref r1), .unset] [(.ref r2), (.ref b2), (.ref b2)])) _
    refine XS.aloadN X2.here hx rfl (hb hby d25_52) rfl rfl ?_
    refine XS.iconst X2.here hx rfl (hb hby d25_53) ?_
    refine X2.aaload hx (j := (1 : Int32)) (v := (.ref r3)) (by rw [e2]; exact Ar4.1) (State.isArrayOf_alike hZ.alike Ar4.2.1) rfl Ar4.2.2 hin4 hat4 (g := (mkF m 54 #[.val (.ref r1), .unset] [(.int (1 : Int32)), (.ref r1), (.ref r2), (.ref b2), (.ref b2)])) rfl rfl (hb hby d25_54) _ ?_
    refine st5 _ ?_
    exact retA X5 hx hret rfl rfl rfl (hb hby d25_58) hr
def Q_rm14_4 (Z : State) (r1 : Addr) (r2 : Addr) (w_MIR : Addr) (r3 : Addr) (r4 : Addr) (k_r2 : ClassId) (n0 : Nat) (h0 : Heap) (v : Option Value) (h : Heap) (L : List Loc) : Prop := ∃ b5_0 : Addr, v = (some (.ref b5_0)) ∧ Fr n0 L ∧ Keep h0 h [] ∧ h0.size ≤ b5_0 ∧ Exa Z h b5_0 sN6 ∧ Fld Z h b5_0 sN6 "e0" sN11 (.ref r3) ∧ Fld Z h b5_0 sN6 "e1" sN11 (.ref r4)
theorem rm14_4 (l : Launch) (Z : State) (a0 : Array Value) (hw : own_HW a0 Z) (r1 : Addr) (r2 : Addr) (w_MIR : Addr) (r3 : Addr) (r4 : Addr) (k_r2 : ClassId) (h0 : Heap) (n0 : Nat) (O0 : Old Z n0 h0) (P1 : Exa Z h0 r1 sN0) (P2 : Fld Z h0 r1 sN0 "size" "I" (.int (2 : Int32))) (P3 : Fld Z h0 r1 sN0 "elementData" sN4 (.ref r2)) (P4 : Exa Z h0 r2 sN4) (P5 : Mir Z sN4 w_MIR) (P6 : Ovr Z k_r2 sN1) (P7 : Arv Z h0 r2 k_r2 (.object sN1) (2 : Int32) [(.ref r3), (.ref r4)] .null) (P8 : Exa Z h0 r4 sN2) (P9 : Exa Z h0 r3 sN2) :
    own_Ct l Z yN12 jdk_56_method_3_code 2 (some (.object sN3)) ({ frames := 6, cells := 2, slots := 4, locals := 100 } : Room) #[(.ref r1)] h0 (Q_rm14_4 Z r1 r2 w_MIR r3 r4 k_r2 n0 h0) := by
  refine own_enter (own := sN14) rfl (plainFor_of_name pn_9) ?_
  intro p e s m below meth c s₁ X0 hx hby hml hown hnm hret hZ e0
  have N0 := Fr.nil n0
  obtain ⟨T1, X1, e1, st1⟩ := instNo X0 hx hZ hown (w90 hw) e0 P1 (own_nsno (w91 hw) (w337 hw) (NS.step (w91 hw) (NS.step (w92 hw) (NS.step (w93 hw) (own_nsroot (w94 hw) (w337 hw) (by decide)) (by decide)) (by decide)) (by decide)) (by decide)) (g := (mkF m 1 #[.val (.ref r1), .unset] [(.ref r1)])) rfl rfl (hb hby d14_1)
  obtain ⟨T2, X2, e2, st2⟩ := instNo X1 hx hZ hown (w95 hw) e1 P1 (own_nsno (w91 hw) (w203 hw) (NS.step (w91 hw) (NS.step (w92 hw) (NS.step (w93 hw) (own_nsroot (w94 hw) (w203 hw) (by decide)) (by decide)) (by decide)) (by decide)) (by decide)) (g := (mkF m 8 #[.val (.ref r1), .unset] [(.ref r1)])) rfl rfl (hb hby d14_8)
  obtain ⟨_, T3, L3, X3, hQ3, st3⟩ := own_cF X2 hx hZ hown (w96 hw) (w97 hw) (w98 hw) (w99 hw) (w100 hw) (w101 hw) (w102 hw) (w103 hw) (w2 hw) (w104 hw) P1 (rm15_2 l Z a0 hw r1 h0 n0 O0 P2) e2 (hb hby d14_32) hml pd_5 [] [] (g := (mkF m 32 #[.val (.ref r1), .unset] [(.ref r1)]))
  obtain ⟨rfl, N3q, e3⟩ := hQ3
  have N3 := Fr.app N0 N3q
  obtain ⟨_, T4, L4, X4, hQ4, st4⟩ := own_cF X3 hx hZ hown (w165 hw) (w166 hw) (w167 hw) (w168 hw) (w169 hw) (w170 hw) (w171 hw) (w103 hw) (w2 hw) (w172 hw) P1 (rm21_3 l Z a0 hw r1 r2 w_MIR r3 r4 k_r2 h0 n0 O0 P3 P2 P4 P5 P6 P7 P8 P9) e3 (hb hby d14_45) hml pd_33 [] [] (g := (mkF m 45 #[.val (.ref r1), .unset] [(.ref r1)]))
  obtain ⟨b4_0, kc4_0, rfl, N4q, K4, ge_b4_0, f4_0, f4_1, ov4_1⟩ := hQ4
  have g_b4_0 : n0 ≤ b4_0 := Nat.le_trans ((O0.1 ▸ O0.2.1) : n0 ≤ h0.size) ge_b4_0
  have sz_b4_0 : h0.size ≤ b4_0 := Nat.le_trans (Keep.refl h0 []).1 ge_b4_0
  have KK4 : Keep h0 T4.heap [] := (Keep.refl h0 []).trans K4 all0
  have O4 := O0.keep K4 all0
  have N4 := Fr.app N3 N4q
  obtain ⟨_, T5, L5, X5, hQ5, st5⟩ := own_cS X4 hx hZ hown (w195 hw) (w196 hw) (w84 hw) (w197 hw) (rm25_3 l Z a0 hw b4_0 r3 r4 kc4_0 T4.heap n0 O4 ov4_1 f4_1) rfl (hb hby d14_50) hml pd_44 [(.ref b4_0)] [] (g := (mkF m 50 #[.val (.ref r1), .unset] [(.ref b4_0)]))
  obtain ⟨b5_0, rfl, N5q, K5, ge_b5_0, f5_0, f5_1, f5_2⟩ := hQ5
  have g_b5_0 : n0 ≤ b5_0 := Nat.le_trans ((O4.1 ▸ O4.2.1) : n0 ≤ T4.heap.size) ge_b5_0
  have sz_b5_0 : h0.size ≤ b5_0 := Nat.le_trans KK4.1 ge_b5_0
  have KK5 : Keep h0 T5.heap [] := KK4.trans K5 all0
  have O5 := O4.keep K5 all0
  have N5 := Fr.app N4 N5q
  refine ⟨(some (.ref b5_0)), _, _, _, _, X5, (fun h => nomatch h), ?_, by decide, by decide, fun fs hr => castTop (ef_14_R m r1) ?_⟩
  · show Q_rm14_4 Z r1 r2 w_MIR r3 r4 k_r2 n0 h0 _ T5.heap _
    exact ⟨b5_0, rfl, N5, KK5, sz_b5_0, f5_0, f5_1, f5_2⟩
  · show Steps p.tables e below (s₁.setTop (mkF m 0 #[.val (.ref r1), .unset] [])) _
    refine XS.aloadN X0.here hx rfl (hb hby d14_0) rfl rfl ?_
    refine st1 _ ?_
    refine XS.ifNo X1.here hx rfl (hb hby d14_4) rfl (by decide) ?_
    refine XS.aloadN X1.here hx rfl (hb hby d14_7) rfl rfl ?_
    refine st2 _ ?_
    refine XS.ifYes X2.here hx rfl (pc0 := 11) (pc' := 31) rfl (hb hby d14_11) rfl (by decide) (by decide) (by decide) ?_
    refine XS.aloadN X2.here hx rfl (hb hby d14_31) rfl rfl ?_
    refine st3 _ ?_
    show Steps p.tables e below (T3.setTop (mkF m 37 #[.val (.ref r1), .unset] [(.int (0 : Int32))])) _
    refine XS.ifYes X3.here hx rfl (pc0 := 37) (pc' := 44) rfl (hb hby d14_37) rfl (by decide) (by decide) (by decide) ?_
    refine XS.aloadN X3.here hx rfl (hb hby d14_44) rfl rfl ?_
    refine st4 _ ?_
    refine st5 _ ?_
    exact retA X5 hx hret rfl rfl rfl (hb hby d14_53) hr
def Q_rm13_4 (Z : State) (r1 : Addr) (r2 : Addr) (w_MIR : Addr) (r3 : Addr) (r4 : Addr) (k_r2 : ClassId) (n0 : Nat) (h0 : Heap) (v : Option Value) (h : Heap) (L : List Loc) : Prop := ∃ b1_0 : Addr, v = (some (.ref b1_0)) ∧ Fr n0 L ∧ Keep h0 h [] ∧ h0.size ≤ b1_0 ∧ Exa Z h b1_0 sN6 ∧ Fld Z h b1_0 sN6 "e0" sN11 (.ref r3) ∧ Fld Z h b1_0 sN6 "e1" sN11 (.ref r4)
theorem rm13_4 (l : Launch) (Z : State) (a0 : Array Value) (hw : own_HW a0 Z) (r1 : Addr) (r2 : Addr) (w_MIR : Addr) (r3 : Addr) (r4 : Addr) (k_r2 : ClassId) (h0 : Heap) (n0 : Nat) (O0 : Old Z n0 h0) (P1 : Exa Z h0 r1 sN0) (P2 : Fld Z h0 r1 sN0 "size" "I" (.int (2 : Int32))) (P3 : Fld Z h0 r1 sN0 "elementData" sN4 (.ref r2)) (P4 : Exa Z h0 r2 sN4) (P5 : Mir Z sN4 w_MIR) (P6 : Ovr Z k_r2 sN1) (P7 : Arv Z h0 r2 k_r2 (.object sN1) (2 : Int32) [(.ref r3), (.ref r4)] .null) (P8 : Exa Z h0 r4 sN2) (P9 : Exa Z h0 r3 sN2) :
    own_Ct l Z yN11 jdk_40_method_48_code 1 (some (.object sN3)) ({ frames := 7, cells := 2, slots := 4, locals := 113 } : Room) #[(.ref r1)] h0 (Q_rm13_4 Z r1 r2 w_MIR r3 r4 k_r2 n0 h0) := by
  refine own_enter (own := sN3) rfl (plainFor_of_name pn_6) ?_
  intro p e s m below meth c s₁ X0 hx hby hml hown hnm hret hZ e0
  have N0 := Fr.nil n0
  obtain ⟨_, T1, L1, X1, hQ1, st1⟩ := own_cS X0 hx hZ hown (w86 hw) (w87 hw) (w88 hw) (w89 hw) (rm14_4 l Z a0 hw r1 r2 w_MIR r3 r4 k_r2 h0 n0 O0 P1 P2 P3 P4 P5 P6 P7 P8 P9) e0 (hb hby d13_1) hml pd_11 [(.ref r1)] [] (g := (mkF m 1 #[.val (.ref r1)] [(.ref r1)]))
  obtain ⟨b1_0, rfl, N1q, K1, ge_b1_0, f1_0, f1_1, f1_2⟩ := hQ1
  have g_b1_0 : n0 ≤ b1_0 := Nat.le_trans ((O0.1 ▸ O0.2.1) : n0 ≤ h0.size) ge_b1_0
  have sz_b1_0 : h0.size ≤ b1_0 := Nat.le_trans (Keep.refl h0 []).1 ge_b1_0
  have KK1 : Keep h0 T1.heap [] := (Keep.refl h0 []).trans K1 all0
  have O1 := O0.keep K1 all0
  have N1 := Fr.app N0 N1q
  refine ⟨(some (.ref b1_0)), _, _, _, _, X1, (fun h => nomatch h), ?_, by decide, by decide, fun fs hr => castTop (ef_13_R m r1) ?_⟩
  · show Q_rm13_4 Z r1 r2 w_MIR r3 r4 k_r2 n0 h0 _ T1.heap _
    exact ⟨b1_0, rfl, N1, KK1, sz_b1_0, f1_0, f1_1, f1_2⟩
  · show Steps p.tables e below (s₁.setTop (mkF m 0 #[.val (.ref r1)] [])) _
    refine XS.aloadN X0.here hx rfl (hb hby d13_0) rfl rfl ?_
    refine st1 _ ?_
    exact retA X1 hx hret rfl rfl rfl (hb hby d13_4) hr
def Q_rm50_1 (Z : State) (r1 : Addr) (w_BOOLEAN : Addr) (r2 : Addr) (p3 : Int32) (n0 : Nat) (h0 : Heap) (v : Option Value) (h : Heap) (L : List Loc) : Prop := v = none ∧ Fr n0 L ∧ Keep h0 h [r1] ∧ Fld Z h r1 sN2 "dataType" sN15 (.ref w_BOOLEAN) ∧ Fld Z h r1 sN2 "values" sN10 .null ∧ Fld Z h r1 sN2 "size" "I" (.int p3) ∧ Fld Z h r1 sN2 "parts" sN10 (.ref r2)
theorem rm50_1 (l : Launch) (Z : State) (a0 : Array Value) (hw : own_HW a0 Z) (r1 : Addr) (w_BOOLEAN : Addr) (r2 : Addr) (p3 : Int32) (h0 : Heap) (n0 : Nat) (O0 : Old Z n0 h0) (P1 : Exa Z h0 r1 sN2) (P2 : Fld Z h0 r1 sN2 "dataType" sN15 .null) (P3 : Fld Z h0 r1 sN2 "values" sN10 .null) (P4 : Fld Z h0 r1 sN2 "size" "I" (.int (0 : Int32))) (P5 : Fld Z h0 r1 sN2 "parts" sN10 .null) (P6 : n0 ≤ r1) :
    own_Ct l Z yN43 prog_167_method_2_code 4 none ({ frames := 1, cells := 0, slots := 0, locals := 12 } : Room) #[(.ref r1), (.ref w_BOOLEAN), (.ref r2), (.int p3)] h0 (Q_rm50_1 Z r1 w_BOOLEAN r2 p3 n0 h0) := by
  refine own_enter (own := sN2) rfl (plainFor_of_name pn_23) ?_
  intro p e s m below meth c s₁ X0 hx hby hml hown hnm hret hZ e0
  have N0 := Fr.nil n0
  obtain ⟨T1, X1, e1, st1⟩ := initO X0 hx hZ hown (w73 hw) (w19 hw) (w20 hw) e0 (g := (mkF m 1 #[.val (.ref r1), .val (.ref w_BOOLEAN), .val (.ref r2), .val (.int p3)] [(.ref r1)])) rfl (by rw [hml]; rfl) rfl (hb hby d50_1) (by decide) (W := 0) (by show 2 * 0 + _ ≤ _; exact Nat.le_of_eq rfl) (by decide)
  obtain ⟨T2, h2, X2, e2, W2, st2⟩ := putF X1 hx hZ hown (host := "") (Or.inl (w80 hw)) Via.refl e1 P2 P1 (Or.inr ⟨(w81 hw), rfl, hnm⟩) (w65 hw) (ty := (.object sN12)) (by decide) rfl rfl (g := (mkF m 6 #[.val (.ref r1), .val (.ref w_BOOLEAN), .val (.ref r2), .val (.int p3)] [(.ref w_BOOLEAN), (.ref r1)])) rfl rfl (hb hby d50_6)
  have Fw2 := P2.same W2
  have KK2 : Keep h0 h2 [r1] := (Keep.refl h0 [r1]).wr W2 (Or.inl (List.mem_of_getElem? (i := 0) rfl))
  have O2 := O0.wr W2 P6
  have N2 := Fr.snoc X2 N0 P6
  have fc3 := (P3.other W2 (Or.inr (slot_ne (Or.inr (w110 hw)) (Or.inr (w81 hw)) (by decide) (t := (.object sN3)) (t' := (.object sN12)) (by decide) (by decide))))
  obtain ⟨T4, h4, X4, e4, W4, st4⟩ := putF X2 hx hZ hown (host := "") (Or.inl (w109 hw)) Via.refl e2 fc3 (P1.wr W2) (Or.inr ⟨(w110 hw), rfl, hnm⟩) (w65 hw) (ty := (.object sN3)) (by decide) rfl rfl (g := (mkF m 11 #[.val (.ref r1), .val (.ref w_BOOLEAN), .val (.ref r2), .val (.int p3)] [.null, (.ref r1)])) rfl rfl (hb hby d50_11)
  have Fw4 := fc3.same W4
  have KK4 : Keep h0 h4 [r1] := KK2.wr W4 (Or.inl (List.mem_of_getElem? (i := 0) rfl))
  have O4 := O2.wr W4 P6
  have N4 := Fr.snoc X4 N2 P6
  have fc5 := ((P5.other W2 (Or.inr (slot_ne (Or.inr (w126 hw)) (Or.inr (w81 hw)) (by decide) (t := (.object sN3)) (t' := (.object sN12)) (by decide) (by decide)))).other W4 (Or.inr (slot_ne (Or.inr (w126 hw)) (Or.inr (w110 hw)) (by decide) (t := (.object sN3)) (t' := (.object sN3)) (by decide) (by decide))))
  obtain ⟨T6, h6, X6, e6, W6, st6⟩ := putF X4 hx hZ hown (host := "") (Or.inl (w125 hw)) Via.refl e4 fc5 ((P1.wr W2).wr W4) (Or.inr ⟨(w126 hw), rfl, hnm⟩) (w65 hw) (ty := (.object sN3)) (by decide) rfl rfl (g := (mkF m 16 #[.val (.ref r1), .val (.ref w_BOOLEAN), .val (.ref r2), .val (.int p3)] [(.ref r2), (.ref r1)])) rfl rfl (hb hby d50_16)
  have Fw6 := fc5.same W6
  have KK6 : Keep h0 h6 [r1] := KK4.wr W6 (Or.inl (List.mem_of_getElem? (i := 0) rfl))
  have O6 := O4.wr W6 P6
  have N6 := Fr.snoc X6 N4 P6
  have fc7 := (((P4.other W2 (Or.inr (slot_ne (Or.inr (w124 hw)) (Or.inr (w81 hw)) (by decide) (t := .int) (t' := (.object sN12)) (by decide) (by decide)))).other W4 (Or.inr (slot_ne (Or.inr (w124 hw)) (Or.inr (w110 hw)) (by decide) (t := .int) (t' := (.object sN3)) (by decide) (by decide)))).other W6 (Or.inr (slot_ne (Or.inr (w124 hw)) (Or.inr (w126 hw)) (by decide) (t := .int) (t' := (.object sN3)) (by decide) (by decide))))
  obtain ⟨T8, h8, X8, e8, W8, st8⟩ := putF X6 hx hZ hown (host := "") (Or.inl (w123 hw)) Via.refl e6 fc7 (((P1.wr W2).wr W4).wr W6) (Or.inr ⟨(w124 hw), rfl, hnm⟩) (w65 hw) (ty := .int) (by decide) rfl rfl (g := (mkF m 21 #[.val (.ref r1), .val (.ref w_BOOLEAN), .val (.ref r2), .val (.int p3)] [(.int p3), (.ref r1)])) rfl rfl (hb hby d50_21)
  have Fw8 := fc7.same W8
  have KK8 : Keep h0 h8 [r1] := KK6.wr W8 (Or.inl (List.mem_of_getElem? (i := 0) rfl))
  have O8 := O6.wr W8 P6
  have N8 := Fr.snoc X8 N6 P6
  have fc9 := (((Fw2.other W4 (Or.inr (slot_ne (Or.inr (w81 hw)) (Or.inr (w110 hw)) (by decide) (t := (.object sN12)) (t' := (.object sN3)) (by decide) (by decide)))).other W6 (Or.inr (slot_ne (Or.inr (w81 hw)) (Or.inr (w126 hw)) (by decide) (t := (.object sN12)) (t' := (.object sN3)) (by decide) (by decide)))).other W8 (Or.inr (slot_ne (Or.inr (w81 hw)) (Or.inr (w124 hw)) (by decide) (t := (.object sN12)) (t' := .int) (by decide) (by decide))))
  have fc10 := ((Fw4.other W6 (Or.inr (slot_ne (Or.inr (w110 hw)) (Or.inr (w126 hw)) (by decide) (t := (.object sN3)) (t' := (.object sN3)) (by decide) (by decide)))).other W8 (Or.inr (slot_ne (Or.inr (w110 hw)) (Or.inr (w124 hw)) (by decide) (t := (.object sN3)) (t' := .int) (by decide) (by decide))))
  have fc11 := (Fw6.other W8 (Or.inr (slot_ne (Or.inr (w126 hw)) (Or.inr (w124 hw)) (by decide) (t := (.object sN3)) (t' := .int) (by decide) (by decide))))
  refine ⟨none, _, _, _, _, X8, (fun _ => rfl), ?_, by decide, by decide, fun fs hr => castTop (ef_50_RRRI m r1 w_BOOLEAN r2 p3) ?_⟩
  · show Q_rm50_1 Z r1 w_BOOLEAN r2 p3 n0 h0 _ T8.heap _
    rw [e8]
    exact ⟨rfl, N8, KK8, fc9, fc10, Fw8, fc11⟩
  · show Steps p.tables e below (s₁.setTop (mkF m 0 #[.val (.ref r1), .val (.ref w_BOOLEAN), .val (.ref r2), .val (.int p3)] [])) _
    refine XS.aloadN X0.here hx rfl (hb hby d50_0) rfl rfl ?_
    refine st1 _ ?_
    refine XS.aloadN X1.here hx rfl (hb hby d50_4) rfl rfl ?_
    refine XS.aloadN X1.here hx rfl (hb hby d50_5) rfl rfl ?_
    refine st2 _ ?_
    refine XS.aloadN X2.here hx rfl (hb hby d50_9) rfl rfl ?_
    refine XS.aconstNull X2.here hx rfl (hb hby d50_10) ?_
    refine st4 _ ?_
    show Steps p.tables e below (T4.setTop (mkF m 14 #[.val (.ref r1), .val (.ref w_BOOLEAN), .val (.ref r2), .val (.int p3)] [])) _
    refine XS.aloadN X4.here hx rfl (hb hby d50_14) rfl rfl ?_
    refine XS.aloadN X4.here hx rfl (hb hby d50_15) rfl rfl ?_
    refine st6 _ ?_
    refine XS.aloadN X6.here hx rfl (hb hby d50_19) rfl rfl ?_
    refine XS.iloadN X6.here hx rfl (hb hby d50_20) rfl ?_
    refine st8 _ ?_
    exact X8.returnOut hx hret (hb hby d50_24) hr
theorem rm33_3 (l : Launch) (Z : State) (a0 : Array Value) (hw : own_HW a0 Z) (w_BOOLEAN : Addr) (r1 : Addr) (r2 : Addr) (k_r2 : ClassId) (r3 : Addr) (r4 : Addr) (p1 : Int32) (p2 : Int32) (w_MIR : Addr) (h0 : Heap) (n0 : Nat) (O0 : Old Z n0 h0) (P1 : Exa Z h0 r1 sN0) (P2 : Fld Z h0 r1 sN0 "size" "I" (.int (2 : Int32))) (P3 : Fld Z h0 r1 sN13 "modCount" "I" (.int (2 : Int32))) (P4 : Fld Z h0 r1 sN0 "elementData" sN4 (.ref r2)) (P5 : Arv Z h0 r2 k_r2 (.object sN1) (10 : Int32) [(.ref r3), (.ref r4), .null, .null, .null, .null, .null, .null, .null, .null] .null) (P6 : Exa Z h0 r2 sN4) (P7 : Exa Z h0 r3 sN2) (P8 : Fld Z h0 r3 sN2 "dataType" sN15 (.ref w_BOOLEAN)) (P9 : Fld Z h0 r3 sN2 "parts" sN10 .null) (P10 : Fld Z h0 r3 sN2 "size" "I" (.int p1)) (P11 : ¬ (p1 = (0 : Int32))) (P12 : Exa Z h0 r4 sN2) (P13 : Fld Z h0 r4 sN2 "dataType" sN15 (.ref w_BOOLEAN)) (P14 : Fld Z h0 r4 sN2 "parts" sN10 .null) (P15 : Fld Z h0 r4 sN2 "size" "I" (.int p2)) (P16 : ¬ (p2 = (0 : Int32))) (P17 : Mir Z sN4 w_MIR) :
    own_Ct l Z yN15 prog_167_method_3_code 6 (some (.object sN2)) ({ frames := 8, cells := 6, slots := 18, locals := 128 } : Room) #[(.ref w_BOOLEAN), (.ref r1)] h0 (own_QJ Z (((0 : Int32) + p1) + p2) n0 h0) := by
  refine own_enter (own := sN2) rfl (plainFor_of_name pn_23) ?_
  intro p e s m below meth c s₁ X0 hx hby hml hown hnm hret hZ e0
  have N0 := Fr.nil n0
  obtain ⟨T1, h1, X1, e1, E1, A1, D1, -, st1⟩ := newO X0 hx hZ hown (w252 hw) (w1 hw) (w2 hw) e0 (g := (mkF m 0 #[.val (.ref w_BOOLEAN), .val (.ref r1), .unset, .unset, .unset, .unset] [])) rfl (hb hby d33_0) (by decide) (by decide)
  obtain ⟨b1, gq1⟩ : ∃ z, z = h0.size := ⟨_, rfl⟩
  rw [← gq1] at A1 D1 st1
  have g_b1 : n0 ≤ b1 := Nat.le_trans ((O0.1 ▸ O0.2.1) : n0 ≤ h0.size) (Nat.le_of_eq gq1.symm)
  have sz_b1 : h0.size ≤ b1 := Nat.le_trans (Keep.refl h0 []).1 (Nat.le_of_eq gq1.symm)
  have KK1 : Keep h0 h1 [] := (Keep.refl h0 []).ext E1
  have O1 := O0.ext E1
  have F_modCount_b1 : Fld Z h1 b1 sN13 "modCount" "I" (.int (0 : Int32)) := D1 (Or.inl (w22 hw)) (ty := .int) (by decide)
  have F_elementData_b1 : Fld Z h1 b1 sN0 "elementData" sN4 .null := D1 (Or.inl (w25 hw)) (ty := (.array (.object sN1))) (by decide)
  have F_size_b1 : Fld Z h1 b1 sN0 "size" "I" (.int (0 : Int32)) := D1 (Or.inl (w41 hw)) (ty := .int) (by decide)
  obtain ⟨_, T2, L2, X2, hQ2, st2⟩ := own_cF X1 hx hZ hown (w111 hw) (w112 hw) (w113 hw) (w253 hw) (w254 hw) (w255 hw) (w256 hw) (w257 hw) (w2 hw) (w258 hw) (P1.ext E1) (rm34_0 l Z a0 hw r1 h1 n0 O1 (P2.ext E1)) e1 (hb hby d33_5) hml pd_15 [] [(.ref b1), (.ref b1)] (g := (mkF m 5 #[.val (.ref w_BOOLEAN), .val (.ref r1), .unset, .unset, .unset, .unset] [(.ref r1), (.ref b1), (.ref b1)]))
  obtain ⟨rfl, N2q, e2⟩ := hQ2
  have N2 := Fr.app N0 N2q
  obtain ⟨_, T3, L3, X3, hQ3, st3⟩ := own_cI X2 hx hZ hown rfl (w259 hw) (w260 hw) (w2 hw) (w261 hw) (rm35_0 l Z a0 hw b1 h1 n0 O1 A1 F_modCount_b1 F_elementData_b1 F_size_b1 g_b1) e2 (hb hby d33_10) hml pd_63 [(.int (2 : Int32))] [(.ref b1)] (g := (mkF m 10 #[.val (.ref w_BOOLEAN), .val (.ref r1), .unset, .unset, .unset, .unset] [(.int (2 : Int32)), (.ref b1), (.ref b1)]))
  obtain ⟨b3_0, kc3_0, rfl, N3q, K3, ge_b3_0, f3_0, f3_1, f3_2, f3_3, f3_4, ov3_4⟩ := hQ3
  have g_b3_0 : n0 ≤ b3_0 := Nat.le_trans ((O1.1 ▸ O1.2.1) : n0 ≤ h1.size) ge_b3_0
  have sz_b3_0 : h0.size ≤ b3_0 := Nat.le_trans KK1.1 ge_b3_0
  have KK3 : Keep h0 T3.heap [] := KK1.trans K3 (allS (Or.inr sz_b1) all0)
  have O3 := O1.keep K3 (allS g_b1 all0)
  have N3 := Fr.app N2 N3q
  have nz4 : r1 ≠ b1 := (Nat.ne_of_lt (Nat.lt_of_lt_of_le P1.lt (Nat.le_of_eq gq1.symm)))
  obtain ⟨_, T5, L5, X5, hQ5, st5⟩ := own_cF X3 hx hZ hown (w127 hw) (w128 hw) (w129 hw) (w262 hw) (w263 hw) (w264 hw) (w265 hw) (w257 hw) (w2 hw) (w266 hw) ((P1.ext E1).keep K3) (rm36_0 l Z a0 hw r1 T3.heap n0 O3 ((P3.ext E1).keep K3 (ninS nz4 nin0)) ((P1.ext E1).keep K3)) rfl (hb hby d33_17) hml pd_21 [] [] (g := (mkF m 17 #[.val (.ref w_BOOLEAN), .val (.ref r1), .val (.ref b1), .val (.int (0 : Int32)), .unset, .unset] [(.ref r1)]))
  obtain ⟨b5_0, rfl, N5q, K5, ge_b5_0, f5_0, f5_1, f5_2, f5_3, f5_4⟩ := hQ5
  have g_b5_0 : n0 ≤ b5_0 := Nat.le_trans ((O3.1 ▸ O3.2.1) : n0 ≤ T3.heap.size) ge_b5_0
  have sz_b5_0 : h0.size ≤ b5_0 := Nat.le_trans KK3.1 ge_b5_0
  have KK5 : Keep h0 T5.heap [] := KK3.trans K5 all0
  have O5 := O3.keep K5 all0
  have N5 := Fr.app N3 N5q
  have fc6 := (((P2.ext E1).keep K3 (ninS nz4 nin0)).keep K5 nin0)
  obtain ⟨_, T7, L7, X7, hQ7, st7⟩ := own_cF X5 hx hZ hown (w156 hw) (w157 hw) (w158 hw) (w282 hw) (w283 hw) (w284 hw) (w285 hw) (w286 hw) (w269 hw) (w287 hw) f5_0 (rm38_0 l Z a0 hw b5_0 r1 T5.heap n0 O5 f5_4 f5_1 fc6) rfl (hb hby d33_26) hml pd_5 [] [] (g := (mkF m 26 #[.val (.ref w_BOOLEAN), .val (.ref r1), .val (.ref b1), .val (.int (0 : Int32)), .val (.ref b5_0), .unset] [(.ref b5_0)]))
  obtain ⟨rfl, N7q, e7⟩ := hQ7
  have N7 := Fr.app N5 N7q
  have fc8 := (((P3.ext E1).keep K3 (ninS nz4 nin0)).keep K5 nin0)
  have fc9 := (((P4.ext E1).keep K3 (ninS nz4 nin0)).keep K5 nin0)
  have nz10 : r2 ≠ b1 := (ne_exa (P6.ext E1) A1 (by decide))
  have fc11 := (((P5.ext E1).keep K3 (ninS nz10 nin0)).keep K5 nin0)
  obtain ⟨_, T12, L12, X12, hQ12, st12⟩ := own_cF X7 hx hZ hown (w223 hw) (w224 hw) (w225 hw) (w291 hw) (w292 hw) (w293 hw) (w294 hw) (w286 hw) (w269 hw) (w295 hw) f5_0 (rm39_0 l Z a0 hw b5_0 r1 r2 r3 r4 k_r2 T5.heap n0 O5 f5_0 f5_1 fc8 f5_3 f5_4 fc6 fc9 fc11 f5_2 g_b5_0 (((P6.ext E1).keep K3).keep K5)) e7 (hb hby d33_36) hml pd_49 [] [] (g := (mkF m 36 #[.val (.ref w_BOOLEAN), .val (.ref r1), .val (.ref b1), .val (.int (0 : Int32)), .val (.ref b5_0), .unset] [(.ref b5_0)]))
  obtain ⟨rfl, N12q, K12, f12_0, f12_1, f12_2, f12_3⟩ := hQ12
  have KK12 : Keep h0 T12.heap [] := KK5.trans K12 (allS (Or.inr sz_b5_0) all0)
  have O12 := O5.keep K12 (allS g_b5_0 all0)
  have N12 := Fr.app N7 N12q
  have fc13 := ((((P7.ext E1).keep K3).keep K5).keep K12)
  obtain ⟨T14, X14, e14, st14⟩ := castY X12 hx hZ hown (w302 hw) rfl (Ins.self fc13) (g := (mkF m 41 #[.val (.ref w_BOOLEAN), .val (.ref r1), .val (.ref b1), .val (.int (0 : Int32)), .val (.ref b5_0), .unset] [(.ref r3)])) rfl rfl (hb hby d33_41)
  have nz15 : r3 ≠ b1 := (ne_exa (P7.ext E1) A1 (by decide))
  have nz16 : r3 ≠ b5_0 := (ne_exa (((P7.ext E1).keep K3).keep K5) f5_0 (by decide))
  have fc17 := ((((P8.ext E1).keep K3 (ninS nz15 nin0)).keep K5 nin0).keep K12 (ninS nz16 nin0))
  obtain ⟨T18, X18, e18, st18⟩ := getF X14 hx hZ hown (host := "") (Or.inl (w80 hw)) Via.refl e14 fc17 (g := (mkF m 48 #[.val (.ref w_BOOLEAN), .val (.ref r1), .val (.ref b1), .val (.int (0 : Int32)), .val (.ref b5_0), .val (.ref r3)] [(.ref r3)])) rfl rfl (hb hby d33_48)
  have fc19 := ((((P9.ext E1).keep K3 (ninS nz15 nin0)).keep K5 nin0).keep K12 (ninS nz16 nin0))
  obtain ⟨T20, X20, e20, st20⟩ := getF X18 hx hZ hown (host := "") (Or.inl (w125 hw)) Via.refl e18 fc19 (g := (mkF m 79 #[.val (.ref w_BOOLEAN), .val (.ref r1), .val (.ref b1), .val (.int (0 : Int32)), .val (.ref b5_0), .val (.ref r3)] [(.ref r3)])) rfl rfl (hb hby d33_79)
  have fc21 := ((((P10.ext E1).keep K3 (ninS nz15 nin0)).keep K5 nin0).keep K12 (ninS nz16 nin0))
  obtain ⟨_, T22, L22, X22, hQ22, st22⟩ := own_cV X20 hx hZ hown (notFace_of_selects (args := #[]) (mvT hZ (w307 hw))) (w304 hw) (w305 hw) (w307 hw) (w306 hw) (w66 hw) (w308 hw) fc13 (rm41_1 l Z a0 hw r3 p1 T12.heap n0 O12 fc21 P11) e20 (hb hby d33_102) hml pd_5 [] [] (g := (mkF m 102 #[.val (.ref w_BOOLEAN), .val (.ref r1), .val (.ref b1), .val (.int (0 : Int32)), .val (.ref b5_0), .val (.ref r3)] [(.ref r3)]))
  obtain ⟨rfl, N22q, e22⟩ := hQ22
  have N22 := Fr.app N12 N22q
  have nz23 : b1 ≠ b5_0 := (Nat.ne_of_lt (Nat.lt_of_lt_of_le (A1.keep K3).lt ge_b5_0))
  have fc24 := ((f3_0.keep K5 nin0).keep K12 (ninS nz23 nin0))
  have fc25 := ((f3_1.keep K5 nin0).keep K12 (ninS nz23 nin0))
  have fc26 := ((f3_2.keep K5 nin0).keep K12 (ninS nz23 nin0))
  have nz27 : b3_0 ≠ b5_0 := (Nat.ne_of_lt (Nat.lt_of_lt_of_le f3_3.lt ge_b5_0))
  have fc28 := ((f3_4.keep K5 nin0).keep K12 (ninS nz27 nin0))
  obtain ⟨_, T29, L29, X29, hQ29, st29⟩ := own_cF X22 hx hZ hown (w309 hw) (w310 hw) (w311 hw) (w312 hw) (w35 hw) (w313 hw) (w314 hw) (w257 hw) (w2 hw) (w37 hw) (((A1.keep K3).keep K5).keep K12) (rm6_0 l Z a0 hw b1 r3 b3_0 kc3_0 T12.heap n0 O12 fc24 (((A1.keep K3).keep K5).keep K12) fc25 fc26 g_b1 ov3_4 fc28 ((f3_3.keep K5).keep K12) fc13 g_b3_0) e22 (hb hby d33_111) hml pd_78 [(.ref r3)] [] (g := (mkF m 111 #[.val (.ref w_BOOLEAN), .val (.ref r1), .val (.ref b1), .val (.int (0 : Int32)), .val (.ref b5_0), .val (.ref r3)] [(.ref r3), (.ref b1)]))
  obtain ⟨rfl, N29q, K29, f29_0, ov29_0, f29_1, f29_2, f29_3⟩ := hQ29
  have KK29 : Keep h0 T29.heap [] := KK12.trans K29 (allS (Or.inr sz_b1) (allS (Or.inr sz_b3_0) all0))
  have O29 := O12.keep K29 (allS g_b1 (allS g_b3_0 all0))
  have N29 := Fr.app N22 N29q
  have nz30 : r3 ≠ b3_0 := (ne_exa ((P7.ext E1).keep K3) f3_3 (by decide))
  have fc31 := (fc21.keep K29 (ninS nz15 (ninS nz30 nin0)))
  obtain ⟨T32, X32, e32, st32⟩ := getF X29 hx hZ hown (host := "") (Or.inl (w123 hw)) Via.refl rfl fc31 (g := (mkF m 120 #[.val (.ref w_BOOLEAN), .val (.ref r1), .val (.ref b1), .val (.int (0 : Int32)), .val (.ref b5_0), .val (.ref r3)] [(.ref r3), (.int (0 : Int32))])) rfl rfl (hb hby d33_120)
  have fc33 := (f12_2.keep K29 (ninS nz23.symm (ninS nz27.symm nin0)))
  have fc34 := (f12_0.keep K29 (ninS nz23.symm (ninS nz27.symm nin0)))
  have nz35 : r1 ≠ b5_0 := (ne_exa (((P1.ext E1).keep K3).keep K5) f5_0 (by decide))
  have nz36 : r1 ≠ b3_0 := (ne_exa ((P1.ext E1).keep K3) f3_3 (by decide))
  have fc37 := ((fc6.keep K12 (ninS nz35 nin0)).keep K29 (ninS nz4 (ninS nz36 nin0)))
  obtain ⟨_, T38, L38, X38, hQ38, st38⟩ := own_cF X32 hx hZ hown (w156 hw) (w157 hw) (w158 hw) (w282 hw) (w283 hw) (w284 hw) (w285 hw) (w286 hw) (w269 hw) (w287 hw) ((f5_0.keep K12).keep K29) (rm38_1 l Z a0 hw b5_0 r1 T29.heap n0 O29 fc33 fc34 fc37) e32 (hb hby d33_26) hml pd_5 [] [] (g := (mkF m 26 #[.val (.ref w_BOOLEAN), .val (.ref r1), .val (.ref b1), .val (.int ((0 : Int32) + p1)), .val (.ref b5_0), .val (.ref r3)] [(.ref b5_0)]))
  obtain ⟨rfl, N38q, e38⟩ := hQ38
  have N38 := Fr.app N29 N38q
  have fc39 := ((fc8.keep K12 (ninS nz35 nin0)).keep K29 (ninS nz4 (ninS nz36 nin0)))
  have fc40 := (f12_1.keep K29 (ninS nz23.symm (ninS nz27.symm nin0)))
  have fc41 := ((fc9.keep K12 (ninS nz35 nin0)).keep K29 (ninS nz4 (ninS nz36 nin0)))
  have nz42 : r2 ≠ b5_0 := (ne_exa (((P6.ext E1).keep K3).keep K5) f5_0 (by decide))
  have nz43 : r2 ≠ b3_0 := (Nat.ne_of_lt (Nat.lt_of_lt_of_le (P5.ext E1).lt ge_b3_0))
  have fc44 := ((fc11.keep K12 (ninS nz42 nin0)).keep K29 (ninS nz10 (ninS nz43 nin0)))
  have fc45 := (f12_3.keep K29 (ninS nz23.symm (ninS nz27.symm nin0)))
  have fc46 := (((((P6.ext E1).keep K3).keep K5).keep K12).keep K29)
  obtain ⟨_, T47, L47, X47, hQ47, st47⟩ := own_cF X38 hx hZ hown (w223 hw) (w224 hw) (w225 hw) (w291 hw) (w292 hw) (w293 hw) (w294 hw) (w286 hw) (w269 hw) (w295 hw) ((f5_0.keep K12).keep K29) (rm39_1 l Z a0 hw b5_0 r1 r2 r3 r4 k_r2 T29.heap n0 O29 ((f5_0.keep K12).keep K29) fc34 fc39 fc40 fc33 fc37 fc41 fc44 fc45 g_b5_0 fc46) e38 (hb hby d33_36) hml pd_49 [] [] (g := (mkF m 36 #[.val (.ref w_BOOLEAN), .val (.ref r1), .val (.ref b1), .val (.int ((0 : Int32) + p1)), .val (.ref b5_0), .val (.ref r3)] [(.ref b5_0)]))
  obtain ⟨rfl, N47q, K47, f47_0, f47_1, f47_2, f47_3⟩ := hQ47
  have KK47 : Keep h0 T47.heap [] := KK29.trans K47 (allS (Or.inr sz_b5_0) all0)
  have O47 := O29.keep K47 (allS g_b5_0 all0)
  have N47 := Fr.app N38 N47q
  have fc48 := ((((((P12.ext E1).keep K3).keep K5).keep K12).keep K29).keep K47)
  obtain ⟨T49, X49, e49, st49⟩ := castY X47 hx hZ hown (w302 hw) rfl (Ins.self fc48) (g := (mkF m 41 #[.val (.ref w_BOOLEAN), .val (.ref r1), .val (.ref b1), .val (.int ((0 : Int32) + p1)), .val (.ref b5_0), .val (.ref r3)] [(.ref r4)])) rfl rfl (hb hby d33_41)
  have nz50 : r4 ≠ b1 := (ne_exa (P12.ext E1) A1 (by decide))
  have nz51 : r4 ≠ b5_0 := (ne_exa (((P12.ext E1).keep K3).keep K5) f5_0 (by decide))
  have nz52 : r4 ≠ b3_0 := (ne_exa ((P12.ext E1).keep K3) f3_3 (by decide))
  have fc53 := ((((((P13.ext E1).keep K3 (ninS nz50 nin0)).keep K5 nin0).keep K12 (ninS nz51 nin0)).keep K29 (ninS nz50 (ninS nz52 nin0))).keep K47 (ninS nz51 nin0))
  obtain ⟨T54, X54, e54, st54⟩ := getF X49 hx hZ hown (host := "") (Or.inl (w80 hw)) Via.refl e49 fc53 (g := (mkF m 48 #[.val (.ref w_BOOLEAN), .val (.ref r1), .val (.ref b1), .val (.int ((0 : Int32) + p1)), .val (.ref b5_0), .val (.ref r4)] [(.ref r4)])) rfl rfl (hb hby d33_48)
  have fc55 := ((((((P14.ext E1).keep K3 (ninS nz50 nin0)).keep K5 nin0).keep K12 (ninS nz51 nin0)).keep K29 (ninS nz50 (ninS nz52 nin0))).keep K47 (ninS nz51 nin0))
  obtain ⟨T56, X56, e56, st56⟩ := getF X54 hx hZ hown (host := "") (Or.inl (w125 hw)) Via.refl e54 fc55 (g := (mkF m 79 #[.val (.ref w_BOOLEAN), .val (.ref r1), .val (.ref b1), .val (.int ((0 : Int32) + p1)), .val (.ref b5_0), .val (.ref r4)] [(.ref r4)])) rfl rfl (hb hby d33_79)
  have fc57 := ((((((P15.ext E1).keep K3 (ninS nz50 nin0)).keep K5 nin0).keep K12 (ninS nz51 nin0)).keep K29 (ninS nz50 (ninS nz52 nin0))).keep K47 (ninS nz51 nin0))
  obtain ⟨_, T58, L58, X58, hQ58, st58⟩ := own_cV X56 hx hZ hown (notFace_of_selects (args := #[]) (mvT hZ (w307 hw))) (w304 hw) (w305 hw) (w307 hw) (w306 hw) (w66 hw) (w308 hw) fc48 (rm41_1 l Z a0 hw r4 p2 T47.heap n0 O47 fc57 P16) e56 (hb hby d33_102) hml pd_5 [] [] (g := (mkF m 102 #[.val (.ref w_BOOLEAN), .val (.ref r1), .val (.ref b1), .val (.int ((0 : Int32) + p1)), .val (.ref b5_0), .val (.ref r4)] [(.ref r4)]))
  obtain ⟨rfl, N58q, e58⟩ := hQ58
  have N58 := Fr.app N47 N58q
  have fc59 := (((((A1.keep K3).keep K5).keep K12).keep K29).keep K47)
  have fc60 := ((((f3_3.keep K5).keep K12).keep K29).keep K47)
  obtain ⟨_, T61, L61, X61, hQ61, st61⟩ := own_cF X58 hx hZ hown (w309 hw) (w310 hw) (w311 hw) (w312 hw) (w35 hw) (w313 hw) (w314 hw) (w257 hw) (w2 hw) (w37 hw) fc59 (rm6_1 l Z a0 hw b1 r4 b3_0 r3 kc3_0 T47.heap n0 O47 (f29_1.keep K47 (ninS nz23 nin0)) fc59 (f29_2.keep K47 (ninS nz23 nin0)) (f29_3.keep K47 (ninS nz23 nin0)) g_b1 ov29_0 (f29_0.keep K47 (ninS nz27 nin0)) fc60 fc48 g_b3_0) e58 (hb hby d33_111) hml pd_78 [(.ref r4)] [] (g := (mkF m 111 #[.val (.ref w_BOOLEAN), .val (.ref r1), .val (.ref b1), .val (.int ((0 : Int32) + p1)), .val (.ref b5_0), .val (.ref r4)] [(.ref r4), (.ref b1)]))
  obtain ⟨rfl, N61q, K61, f61_0, ov61_0, f61_1, f61_2, f61_3⟩ := hQ61
  have KK61 : Keep h0 T61.heap [] := KK47.trans K61 (allS (Or.inr sz_b1) (allS (Or.inr sz_b3_0) all0))
  have O61 := O47.keep K61 (allS g_b1 (allS g_b3_0 all0))
  have N61 := Fr.app N58 N61q
  have fc62 := (fc57.keep K61 (ninS nz50 (ninS nz52 nin0)))
  obtain ⟨T63, X63, e63, st63⟩ := getF X61 hx hZ hown (host := "") (Or.inl (w123 hw)) Via.refl rfl fc62 (g := (mkF m 120 #[.val (.ref w_BOOLEAN), .val (.ref r1), .val (.ref b1), .val (.int ((0 : Int32) + p1)), .val (.ref b5_0), .val (.ref r4)] [(.ref r4), (.int ((0 : Int32) + p1))])) rfl rfl (hb hby d33_120)
  have fc64 := ((((f5_0.keep K12).keep K29).keep K47).keep K61)
  have fc65 := (f47_2.keep K61 (ninS nz23.symm (ninS nz27.symm nin0)))
  have fc66 := (f47_0.keep K61 (ninS nz23.symm (ninS nz27.symm nin0)))
  have fc67 := ((fc37.keep K47 (ninS nz35 nin0)).keep K61 (ninS nz4 (ninS nz36 nin0)))
  obtain ⟨_, T68, L68, X68, hQ68, st68⟩ := own_cF X63 hx hZ hown (w156 hw) (w157 hw) (w158 hw) (w282 hw) (w283 hw) (w284 hw) (w285 hw) (w286 hw) (w269 hw) (w287 hw) fc64 (rm38_2 l Z a0 hw b5_0 r1 T61.heap n0 O61 fc65 fc66 fc67) e63 (hb hby d33_26) hml pd_5 [] [] (g := (mkF m 26 #[.val (.ref w_BOOLEAN), .val (.ref r1), .val (.ref b1), .val (.int (((0 : Int32) + p1) + p2)), .val (.ref b5_0), .val (.ref r4)] [(.ref b5_0)]))
  obtain ⟨rfl, N68q, e68⟩ := hQ68
  have N68 := Fr.app N61 N68q
  obtain ⟨_, T69, L69, X69, hQ69, st69⟩ := own_cF X68 hx hZ hown (w111 hw) (w112 hw) (w113 hw) (w253 hw) (w254 hw) (w255 hw) (w256 hw) (w257 hw) (w2 hw) (w258 hw) (fc59.keep K61) (rm34_0 l Z a0 hw b1 T61.heap n0 O61 f61_3) e68 (hb hby d33_129) hml pd_15 [] [] (g := (mkF m 129 #[.val (.ref w_BOOLEAN), .val (.ref r1), .val (.ref b1), .val (.int (((0 : Int32) + p1) + p2)), .val (.ref b5_0), .val (.ref r4)] [(.ref b1)]))
  obtain ⟨rfl, N69q, e69⟩ := hQ69
  have N69 := Fr.app N68 N69q
  obtain ⟨T70, h70, X70, e70, E70, A70, D70, -, st70⟩ := newO X69 hx hZ hown (w302 hw) (w65 hw) (w66 hw) e69 (g := (mkF m 149 #[.val (.ref w_BOOLEAN), .val (.ref r1), .val (.ref b1), .val (.int (((0 : Int32) + p1) + p2)), .val (.ref b5_0), .val (.ref r4)] [])) rfl (hb hby d33_149) (by decide) (by decide)
  obtain ⟨b70, gq70⟩ : ∃ z, z = T61.heap.size := ⟨_, rfl⟩
  rw [← gq70] at A70 D70 st70
  have g_b70 : n0 ≤ b70 := Nat.le_trans ((O61.1 ▸ O61.2.1) : n0 ≤ T61.heap.size) (Nat.le_of_eq gq70.symm)
  have sz_b70 : h0.size ≤ b70 := Nat.le_trans KK61.1 (Nat.le_of_eq gq70.symm)
  have KK70 : Keep h0 h70 [] := KK61.ext E70
  have O70 := O61.ext E70
  have F_dataType_b70 : Fld Z h70 b70 sN2 "dataType" sN15 .null := D70 (Or.inr (w81 hw)) (ty := (.object sN12)) (by decide)
  have F_values_b70 : Fld Z h70 b70 sN2 "values" sN10 .null := D70 (Or.inr (w110 hw)) (ty := (.object sN3)) (by decide)
  have F_size_b70 : Fld Z h70 b70 sN2 "size" "I" (.int (0 : Int32)) := D70 (Or.inr (w124 hw)) (ty := .int) (by decide)
  have F_parts_b70 : Fld Z h70 b70 sN2 "parts" sN10 .null := D70 (Or.inr (w126 hw)) (ty := (.object sN3)) (by decide)
  have fc71 := ((((fc13.keep K29).keep K47).keep K61).ext E70)
  obtain ⟨_, T72, L72, X72, hQ72, st72⟩ := own_cS X70 hx hZ hown (w82 hw) (w83 hw) (w84 hw) (w85 hw) (rm13_4 l Z a0 hw b1 b3_0 w_MIR r3 r4 kc3_0 h70 n0 O70 ((fc59.keep K61).ext E70) (f61_3.ext E70) (f61_2.ext E70) ((fc60.keep K61).ext E70) P17 ov61_0 (f61_0.ext E70) ((fc48.keep K61).ext E70) fc71) e70 (hb hby d33_155) hml pd_11 [(.ref b1)] [(.ref w_BOOLEAN), (.ref b70), (.ref b70)] (g := (mkF m 155 #[.val (.ref w_BOOLEAN), .val (.ref r1), .val (.ref b1), .val (.int (((0 : Int32) + p1) + p2)), .val (.ref b5_0), .val (.ref r4)] [(.ref b1), (.ref w_BOOLEAN), (.ref b70), (.ref b70)]))
  obtain ⟨b72_0, rfl, N72q, K72, ge_b72_0, f72_0, f72_1, f72_2⟩ := hQ72
  have g_b72_0 : n0 ≤ b72_0 := Nat.le_trans ((O70.1 ▸ O70.2.1) : n0 ≤ h70.size) ge_b72_0
  have sz_b72_0 : h0.size ≤ b72_0 := Nat.le_trans KK70.1 ge_b72_0
  have KK72 : Keep h0 T72.heap [] := KK70.trans K72 all0
  have O72 := O70.keep K72 all0
  have N72 := Fr.app N69 N72q
  obtain ⟨_, T73, L73, X73, hQ73, st73⟩ := own_cI X72 hx hZ hown rfl (w370 hw) (w371 hw) (w66 hw) (w372 hw) (rm50_1 l Z a0 hw b70 w_BOOLEAN b72_0 (((0 : Int32) + p1) + p2) T72.heap n0 O72 (A70.keep K72) (F_dataType_b70.keep K72 nin0) (F_values_b70.keep K72 nin0) (F_size_b70.keep K72 nin0) (F_parts_b70.keep K72 nin0) g_b70) rfl (hb hby d33_159) hml pd_73 [(.ref w_BOOLEAN), (.ref b72_0), (.int (((0 : Int32) + p1) + p2))] [(.ref b70)] (g := (mkF m 159 #[.val (.ref w_BOOLEAN), .val (.ref r1), .val (.ref b1), .val (.int (((0 : Int32) + p1) + p2)), .val (.ref b5_0), .val (.ref r4)] [(.int (((0 : Int32) + p1) + p2)), (.ref b72_0), (.ref w_BOOLEAN), (.ref b70), (.ref b70)]))
  obtain ⟨rfl, N73q, K73, f73_0, f73_1, f73_2, f73_3⟩ := hQ73
  have KK73 : Keep h0 T73.heap [] := KK72.trans K73 (allS (Or.inr sz_b70) all0)
  have O73 := O72.keep K73 (allS g_b70 all0)
  have N73 := Fr.app N72 N73q
  refine ⟨(some (.ref b70)), _, _, _, _, X73, (fun h => nomatch h), ?_, by decide, by decide, fun fs hr => castTop (ef_33_RR m w_BOOLEAN r1) ?_⟩
  · show own_QJ Z (((0 : Int32) + p1) + p2) n0 h0 _ T73.heap _
    exact ⟨b70, rfl, N73, KK73, ((A70.keep K72).keep K73), f73_2⟩
  · show Steps p.tables e below (s₁.setTop (mkF m 0 #[.val (.ref w_BOOLEAN), .val (.ref r1), .unset, .unset, .unset, .unset] [])) _
    refine st1 _ ?_
    refine XS.dup X1.here hx rfl (hb hby d33_3) rfl rfl ?_
    refine XS.aloadN X1.here hx rfl (hb hby d33_4) rfl rfl ?_
    refine st2 _ ?_
    refine st3 _ ?_
    refine XS.astoreN X3.here hx rfl (hb hby d33_13) rfl rfl (l' := #[.val (.ref w_BOOLEAN), .val (.ref r1), .val (.ref b1), .unset, .unset, .unset]) rfl ?_
    refine XS.iconst X3.here hx rfl (hb hby d33_14) ?_
    refine XS.istoreN X3.here hx rfl (hb hby d33_15) rfl (l' := #[.val (.ref w_BOOLEAN), .val (.ref r1), .val (.ref b1), .val (.int (0 : Int32)), .unset, .unset]) rfl ?_
    show Steps p.tables e below (T3.setTop (mkF m 16 #[.val (.ref w_BOOLEAN), .val (.ref r1), .val (.ref b1), .val (.int (0 : Int32)), .unset, .unset] [])) _
    refine XS.aloadN X3.here hx rfl (hb hby d33_16) rfl rfl ?_
    refine st5 _ ?_
    refine XS.astore X5.here hx rfl (hb hby d33_22) rfl rfl (l' := #[.val (.ref w_BOOLEAN), .val (.ref r1), .val (.ref b1), .val (.int (0 : Int32)), .val (.ref b5_0), .unset]) rfl ?_
    refine XS.aload X5.here hx rfl (hb hby d33_24) rfl rfl ?_
    refine st7 _ ?_
    refine XS.ifNo X7.here hx rfl (hb hby d33_31) rfl (by decide) ?_
    refine XS.aload X7.here hx rfl (hb hby d33_34) rfl rfl ?_
    refine st12 _ ?_
    show Steps p.tables e below (T12.setTop (mkF m 41 #[.val (.ref w_BOOLEAN), .val (.ref r1), .val (.ref b1), .val (.int (0 : Int32)), .val (.ref b5_0), .unset] [(.ref r3)])) _
    refine st14 _ ?_
    refine XS.astore X14.here hx rfl (hb hby d33_44) rfl rfl (l' := #[.val (.ref w_BOOLEAN), .val (.ref r1), .val (.ref b1), .val (.int (0 : Int32)), .val (.ref b5_0), .val (.ref r3)]) rfl ?_
    refine XS.aload X14.here hx rfl (hb hby d33_46) rfl rfl ?_
    refine st18 _ ?_
    refine XS.aloadN X18.here hx rfl (hb hby d33_51) rfl rfl ?_
    refine Jvm.RoadKit.acmp (g := (mkF m 52 #[.val (.ref w_BOOLEAN), .val (.ref r1), .val (.ref b1), .val (.int (0 : Int32)), .val (.ref b5_0), .val (.ref r3)] [(.ref w_BOOLEAN), (.ref w_BOOLEAN)])) X18 hx rfl rfl rfl (pc0 := 52) (pc' := 77) (same := true) rfl (hb hby d33_52) rfl (decide_eq_true rfl) (by decide) (by decide) ?_
    refine XS.aload X18.here hx rfl (hb hby d33_77) rfl rfl ?_
    refine st20 _ ?_
    show Steps p.tables e below (T20.setTop (mkF m 82 #[.val (.ref w_BOOLEAN), .val (.ref r1), .val (.ref b1), .val (.int (0 : Int32)), .val (.ref b5_0), .val (.ref r3)] [.null])) _
    refine XS.ifnullYes X20.here hx rfl (pc0 := 82) (pc' := 100) rfl (hb hby d33_82) rfl (by decide) (by decide) ?_
    refine XS.aload X20.here hx rfl (hb hby d33_100) rfl rfl ?_
    refine st22 _ ?_
    refine XS.ifNo X22.here hx rfl (hb hby d33_105) rfl (by decide) ?_
    refine XS.aloadN X22.here hx rfl (hb hby d33_108) rfl rfl ?_
    refine XS.aload X22.here hx rfl (hb hby d33_109) rfl rfl ?_
    refine st29 _ ?_
    refine XS.pop X29.here hx rfl (hb hby d33_116) rfl rfl ?_
    show Steps p.tables e below (T29.setTop (mkF m 117 #[.val (.ref w_BOOLEAN), .val (.ref r1), .val (.ref b1), .val (.int (0 : Int32)), .val (.ref b5_0), .val (.ref r3)] [])) _
    refine XS.iloadN X29.here hx rfl (hb hby d33_117) rfl ?_
    refine XS.aload X29.here hx rfl (hb hby d33_118) rfl rfl ?_
    refine st32 _ ?_
    refine XS.iadd X32.here hx rfl (hb hby d33_123) rfl ?_
    refine XS.istoreN X32.here hx rfl (hb hby d33_124) rfl (l' := #[.val (.ref w_BOOLEAN), .val (.ref r1), .val (.ref b1), .val (.int ((0 : Int32) + p1)), .val (.ref b5_0), .val (.ref r3)]) rfl ?_
    refine XS.goto X32.here hx rfl (pc0 := 125) (pc' := 24) rfl (hb hby d33_125) (by decide) (by decide) ?_
    refine XS.aload X32.here hx rfl (hb hby d33_24) rfl rfl ?_
    refine st38 _ ?_
    show Steps p.tables e below (T38.setTop (mkF m 31 #[.val (.ref w_BOOLEAN), .val (.ref r1), .val (.ref b1), .val (.int ((0 : Int32) + p1)), .val (.ref b5_0), .val (.ref r3)] [(.int (1 : Int32))])) _
    refine XS.ifNo X38.here hx rfl (hb hby d33_31) rfl (by decide) ?_
    refine XS.aload X38.here hx rfl (hb hby d33_34) rfl rfl ?_
    refine st47 _ ?_
    refine st49 _ ?_
    refine XS.astore X49.here hx rfl (hb hby d33_44) rfl rfl (l' := #[.val (.ref w_BOOLEAN), .val (.ref r1), .val (.ref b1), .val (.int ((0 : Int32) + p1)), .val (.ref b5_0), .val (.ref r4)]) rfl ?_
    refine XS.aload X49.here hx rfl (hb hby d33_46) rfl rfl ?_
    refine st54 _ ?_
    refine XS.aloadN X54.here hx rfl (hb hby d33_51) rfl rfl ?_
    show Steps p.tables e below (T54.setTop (mkF m 52 #[.val (.ref w_BOOLEAN), .val (.ref r1), .val (.ref b1), .val (.int ((0 : Int32) + p1)), .val (.ref b5_0), .val (.ref r4)] [(.ref w_BOOLEAN), (.ref w_BOOLEAN)])) _
    refine Jvm.RoadKit.acmp (g := (mkF m 52 #[.val (.ref w_BOOLEAN), .val (.ref r1), .val (.ref b1), .val (.int ((0 : Int32) + p1)), .val (.ref b5_0), .val (.ref r4)] [(.ref w_BOOLEAN), (.ref w_BOOLEAN)])) X54 hx rfl rfl rfl (pc0 := 52) (pc' := 77) (same := true) rfl (hb hby d33_52) rfl (decide_eq_true rfl) (by decide) (by decide) ?_
    refine XS.aload X54.here hx rfl (hb hby d33_77) rfl rfl ?_
    refine st56 _ ?_
    refine XS.ifnullYes X56.here hx rfl (pc0 := 82) (pc' := 100) rfl (hb hby d33_82) rfl (by decide) (by decide) ?_
    refine XS.aload X56.here hx rfl (hb hby d33_100) rfl rfl ?_
    refine st58 _ ?_
    refine XS.ifNo X58.here hx rfl (hb hby d33_105) rfl (by decide) ?_
    refine XS.aloadN X58.here hx rfl (hb hby d33_108) rfl rfl ?_
    show Steps p.tables e below (T58.setTop (mkF m 109 #[.val (.ref w_BOOLEAN), .val (.ref r1), .val (.ref b1), .val (.int ((0 : Int32) + p1)), .val (.ref b5_0), .val (.ref r4)] [(.ref b1)])) _
    refine XS.aload X58.here hx rfl (hb hby d33_109) rfl rfl ?_
    refine st61 _ ?_
    refine XS.pop X61.here hx rfl (hb hby d33_116) rfl rfl ?_
    refine XS.iloadN X61.here hx rfl (hb hby d33_117) rfl ?_
    refine XS.aload X61.here hx rfl (hb hby d33_118) rfl rfl ?_
    refine st63 _ ?_
    refine XS.iadd X63.here hx rfl (hb hby d33_123) rfl ?_
    refine XS.istoreN X63.here hx rfl (hb hby d33_124) rfl (l' := #[.val (.ref w_BOOLEAN), .val (.ref r1), .val (.ref b1), .val (.int (((0 : Int32) + p1) + p2)), .val (.ref b5_0), .val (.ref r4)]) rfl ?_
    show Steps p.tables e below (T63.setTop (mkF m 125 #[.val (.ref w_BOOLEAN), .val (.ref r1), .val (.ref b1), .val (.int (((0 : Int32) + p1) + p2)), .val (.ref b5_0), .val (.ref r4)] [])) _
    refine XS.goto X63.here hx rfl (pc0 := 125) (pc' := 24) rfl (hb hby d33_125) (by decide) (by decide) ?_
    refine XS.aload X63.here hx rfl (hb hby d33_24) rfl rfl ?_
    refine st68 _ ?_
    refine XS.ifYes X68.here hx rfl (pc0 := 31) (pc' := 128) rfl (hb hby d33_31) rfl (by decide) (by decide) (by decide) ?_
    refine XS.aloadN X68.here hx rfl (hb hby d33_128) rfl rfl ?_
    refine st69 _ ?_
    refine XS.iconst X69.here hx rfl (hb hby d33_134) ?_
    refine XS.icmpYes X69.here hx rfl (pc0 := 135) (pc' := 149) rfl (hb hby d33_135) rfl (by decide) (by decide) (by decide) ?_
    show Steps p.tables e below (T69.setTop (mkF m 149 #[.val (.ref w_BOOLEAN), .val (.ref r1), .val (.ref b1), .val (.int (((0 : Int32) + p1) + p2)), .val (.ref b5_0), .val (.ref r4)] [])) _
    refine st70 _ ?_
    refine XS.dup X70.here hx rfl (hb hby d33_152) rfl rfl ?_
    refine XS.aloadN X70.here hx rfl (hb hby d33_153) rfl rfl ?_
    refine XS.aloadN X70.here hx rfl (hb hby d33_154) rfl rfl ?_
    refine st72 _ ?_
    refine XS.iloadN X72.here hx rfl (hb hby d33_158) rfl ?_
    refine st73 _ ?_
    exact retA X73 hx hret rfl rfl rfl (hb hby d33_162) hr
theorem own_J (l : Launch) (Z : State) (a0 : Array Value) (hw : own_HW a0 Z) (r1 r2 r3 r4 : Addr) (k_r2 : ClassId) (p1 p2 : Int32) (w_BOOLEAN : Addr) (w_LIST : Addr) (w_MIR : Addr) (h0 : Heap) (n0 : Nat) (O0 : Old Z n0 h0) (G0 : Sta Z Z.heap sN14 "EMPTY_LIST" sN34 (.ref w_LIST)) (G1 : Mir Z sN4 w_MIR) (P_E_r1 : Exa Z h0 r1 sN0) (P_F_r1_ArrayList_size : Fld Z h0 r1 sN0 "size" "I" (.int (2 : Int32))) (P_F_r1_AbstractList_modCount : Fld Z h0 r1 sN13 "modCount" "I" (.int (2 : Int32))) (P_F_r1_ArrayList_elementData : Fld Z h0 r1 sN0 "elementData" sN4 (.ref r2)) (P_V_r2 : Arv Z h0 r2 k_r2 (.object sN1) (10 : Int32) [(.ref r3), (.ref r4), .null, .null, .null, .null, .null, .null, .null, .null] .null) (P_E_r2 : Exa Z h0 r2 sN4) (P_E_r3 : Exa Z h0 r3 sN2) (P_F_r3_Bag_dataType : Fld Z h0 r3 sN2 "dataType" sN15 (.ref w_BOOLEAN)) (P_F_r3_Bag_parts : Fld Z h0 r3 sN2 "parts" sN10 .null) (P_F_r3_Bag_size : Fld Z h0 r3 sN2 "size" "I" (.int p1)) (P_E_r4 : Exa Z h0 r4 sN2) (P_F_r4_Bag_dataType : Fld Z h0 r4 sN2 "dataType" sN15 (.ref w_BOOLEAN)) (P_F_r4_Bag_parts : Fld Z h0 r4 sN2 "parts" sN10 .null) (P_F_r4_Bag_size : Fld Z h0 r4 sN2 "size" "I" (.int p2)) :
    own_Ct l Z yN15 prog_167_method_3_code 6 (some (.object sN2)) ({ frames := 8, cells := 6, slots := 18, locals := 128 } : Room) #[(.ref w_BOOLEAN), (.ref r1)] h0 (own_QJ Z (p1 + p2) n0 h0) := by
  by_cases c1 : ¬ (p1 = (0 : Int32))
  · by_cases c2 : ¬ (p2 = (0 : Int32))
    · have q : p1 + p2 = (((0 : Int32) + p1) + p2) := by simp
      rw [q]
      exact rm33_3 l Z a0 hw w_BOOLEAN r1 r2 k_r2 r3 r4 p1 p2 w_MIR h0 n0 O0 P_E_r1 P_F_r1_ArrayList_size P_F_r1_AbstractList_modCount P_F_r1_ArrayList_elementData P_V_r2 P_E_r2 P_E_r3 P_F_r3_Bag_dataType P_F_r3_Bag_parts P_F_r3_Bag_size c1 P_E_r4 P_F_r4_Bag_dataType P_F_r4_Bag_parts P_F_r4_Bag_size c2 G1
    · obtain rfl : p2 = 0 := Decidable.of_not_not c2
      have q : p1 + 0 = p1 := by simp
      rw [q]
      exact rm33_1 l Z a0 hw w_BOOLEAN r1 r2 k_r2 r3 r4 p1 h0 n0 O0 P_E_r1 P_F_r1_ArrayList_size P_F_r1_AbstractList_modCount P_F_r1_ArrayList_elementData P_V_r2 P_E_r2 P_E_r3 P_F_r3_Bag_dataType P_F_r3_Bag_parts P_F_r3_Bag_size c1 P_E_r4 P_F_r4_Bag_dataType P_F_r4_Bag_parts P_F_r4_Bag_size
  · obtain rfl : p1 = 0 := Decidable.of_not_not c1
    by_cases c2 : ¬ (p2 = (0 : Int32))
    · have q : 0 + p2 = p2 := by simp
      rw [q]
      exact rm33_2 l Z a0 hw w_BOOLEAN r1 r2 k_r2 r3 r4 p2 h0 n0 O0 P_E_r1 P_F_r1_ArrayList_size P_F_r1_AbstractList_modCount P_F_r1_ArrayList_elementData P_V_r2 P_E_r2 P_E_r3 P_F_r3_Bag_dataType P_F_r3_Bag_parts P_F_r3_Bag_size P_E_r4 P_F_r4_Bag_dataType P_F_r4_Bag_parts P_F_r4_Bag_size c2
    · obtain rfl : p2 = 0 := Decidable.of_not_not c2
      have q : (0 : Int32) + 0 = (0 : Int32) := by simp
      rw [q]
      exact rm33_0 l Z a0 hw w_BOOLEAN r1 r2 k_r2 r3 r4 w_LIST h0 n0 O0 P_E_r1 P_F_r1_ArrayList_size P_F_r1_AbstractList_modCount P_F_r1_ArrayList_elementData P_V_r2 P_E_r2 P_E_r3 P_F_r3_Bag_dataType P_F_r3_Bag_parts P_F_r3_Bag_size P_E_r4 P_F_r4_Bag_dataType P_F_r4_Bag_parts P_F_r4_Bag_size G0
theorem rm10_0 (l : Launch) (Z : State) (a0 : Array Value) (hw : ∀ d ∈ tables_1, d.before a0 Z = true)  (h0 : Heap) (n0 : Nat) (O0 : Old Z n0 h0)  :
    MetFree l yN36 (head1 [Jvm.Cond.code yN36 jdk_29_method_65_code 2 (some .int)] ({ frames := 0, cells := 0, slots := 0, locals := 0 } : Room)) (fun a U => a = #[(.int (10 : Int32)), (.int (1 : Int32))] ∧ Z.Warmed39 U.vm ∧ U.heap = h0) (fun _ _ _ _ _ => True) (fun _ U o U' => ∃ v L, o = .returned v ∧ own_QP (some (.int (10 : Int32))) n0 h0 v U'.heap L ∧ FrameEnd U o U' L ({ frames := 0, cells := 0, slots := 0, locals := 0 } : Room).cells ({ frames := 0, cells := 0, slots := 0, locals := 0 } : Room).slots) := by
  refine MetFree.of_bodySF (Jvm.Free.JP.mathPlain rfl (by decide +kernel)) hisR ?_
  intro p e s m args below meth c s₁ Bd hml0 hP hK
  obtain ⟨rfl, hZ, hh⟩ := hP
  have hx := Bd.exec
  have hby := Bd.bytes
  have hml : c.maxLocals = 2 := hml0
  have hown : s.vm.findClass sN27 = some m.cls := findClass_of_methodNamed Bd.named
  have hnm := (name_of_methodNamed Bd.named Bd.method).1
  have X0 : Stand p l e ({ frames := 0, cells := 0, slots := 0, locals := 0 } : Room) s m #[(.int (10 : Int32)), (.int (1 : Int32))] below meth c s₁ [] 0 0 := Stand.of_body Bd
  have e0 : s₁.heap = h0 := by rw [← hh, Bd.state]; rfl
  have N0 := Fr.nil n0
  have pre0 : ∀ t, Steps p.tables e below (s₁.setTop (mkF m 0 #[.val (.int (10 : Int32)), .val (.int (1 : Int32))] [])) t → Steps p.tables e below (s₁.setTop (entryFrame m #[(.int (10 : Int32)), (.int (1 : Int32))] 2)) t := fun t k => castTop (ef_10_II m (10 : Int32) (1 : Int32)) k
  obtain ⟨fs, hr, hrun, hended, hW, hsame⟩ := X0.leave (v := (some (.int (10 : Int32)))) (fun h => by rw [Bd.returns] at h; cases h)
  refine ⟨_, _, pre0 _ ?_, hrun, hended, _, _, rfl, ?_, ⟨_, rfl⟩, hW, hsame.mono (by decide) (by decide)⟩
  · show Steps p.tables e below (s₁.setTop (mkF m 0 #[.val (.int (10 : Int32)), .val (.int (1 : Int32))] [])) _
    refine XS.iloadN X0.here hx rfl (hb hby d10_0) rfl ?_
    refine XS.iloadN X0.here hx rfl (hb hby d10_1) rfl ?_
    refine XS.icmpNo X0.here hx rfl (hb hby d10_2) rfl (by decide) ?_
    refine XS.iloadN X0.here hx rfl (hb hby d10_5) rfl ?_
    refine XS.goto X0.here hx rfl (pc0 := 6) (pc' := 10) rfl (hb hby d10_6) (by decide) (by decide) ?_
    exact retI X0 hx Bd.returns (hb hby d10_10) hr
  · show own_QP (some (.int (10 : Int32))) n0 h0 _ s₁.heap _
    rw [e0]
    exact ⟨rfl, N0, rfl⟩
def Q_rm9_0 (Z : State) (r1 : Addr) (w_DEF : Addr) (w_kDEF : ClassId) (n0 : Nat) (h0 : Heap) (v : Option Value) (h : Heap) (L : List Loc) : Prop := ∃ b6 : Addr, ∃ k6 : ClassId, v = (some (.ref b6)) ∧ Fr n0 L ∧ Keep h0 h [r1] ∧ h0.size ≤ b6 ∧ Fld Z h r1 sN0 "elementData" sN4 (.ref b6) ∧ Exa Z h b6 sN4 ∧ Arv Z h b6 k6 (.object sN1) (10 : Int32) [.null, .null, .null, .null, .null, .null, .null, .null, .null, .null] .null ∧ Ovr Z k6 sN1 ∧ Fld Z h r1 sN0 "size" "I" (.int (0 : Int32)) ∧ Fld Z h r1 sN13 "modCount" "I" (.int (1 : Int32))
theorem rm9_0 (l : Launch) (Z : State) (a0 : Array Value) (hw : own_HW a0 Z) (r1 : Addr) (w_DEF : Addr) (w_kDEF : ClassId) (h0 : Heap) (n0 : Nat) (O0 : Old Z n0 h0) (P1 : Fld Z h0 r1 sN0 "elementData" sN4 (.ref w_DEF)) (P2 : Arv Z Z.heap w_DEF w_kDEF (.object sN1) (0 : Int32) [] .null) (P3 : Sta Z Z.heap sN0 sN31 sN4 (.ref w_DEF)) (P4 : Fld Z h0 r1 sN0 "size" "I" (.int (0 : Int32))) (P5 : Fld Z h0 r1 sN13 "modCount" "I" (.int (1 : Int32))) (P6 : Exa Z h0 r1 sN0) (P7 : n0 ≤ r1) :
    own_Ct l Z yN17 jdk_38_method_6_code 4 (some (.array (.object sN1))) ({ frames := 1, cells := 1, slots := 10, locals := 14 } : Room) #[(.ref r1), (.int (1 : Int32))] h0 (Q_rm9_0 Z r1 w_DEF w_kDEF n0 h0) := by
  refine own_enter (own := sN0) rfl (plainFor_of_name pn_3) ?_
  intro p e s m below meth c s₁ X0 hx hby hml hown hnm hret hZ e0
  have N0 := Fr.nil n0
  obtain ⟨T1, X1, e1, st1⟩ := getF X0 hx hZ hown (host := "") (Or.inl (w24 hw)) Via.refl e0 P1 (g := (mkF m 1 #[.val (.ref r1), .val (.int (1 : Int32)), .unset, .unset] [(.ref r1)])) rfl rfl (hb hby d9_1)
  obtain ⟨cl2, Ar2, -, Sr2, Nr2, -, -⟩ := id (P2.ext O0.2)
  obtain ⟨T3, X3, e3, st3⟩ := getF X1 hx hZ hown (host := "") (Or.inl (w24 hw)) Via.refl e1 P1 (g := (mkF m 11 #[.val (.ref r1), .val (.int (1 : Int32)), .val (.int (0 : Int32)), .unset] [(.ref r1)])) rfl rfl (hb hby d9_11)
  obtain ⟨T4, X4, e4, st4⟩ := getS2 X3 hx hZ hown (host := "") (Or.inl (w23 hw)) Via.refl e3 (P3.ext O0.2) (g := (mkF m 14 #[.val (.ref r1), .val (.int (1 : Int32)), .val (.int (0 : Int32)), .unset] [(.ref w_DEF)])) rfl (hb hby d9_14)
  obtain ⟨_, T5, L5, X5, hQ5, st5⟩ := own_cS X4 hx hZ hown (w57 hw) (w58 hw) (w59 hw) (w60 hw) (rm10_0 l Z a0 hw  h0 n0 O0 ) e4 (hb hby d9_49) hml pd_26 [(.int (10 : Int32)), (.int (1 : Int32))] [(.ref r1)] (g := (mkF m 49 #[.val (.ref r1), .val (.int (1 : Int32)), .val (.int (0 : Int32)), .unset] [(.int (1 : Int32)), (.int (10 : Int32)), (.ref r1)]))
  obtain ⟨rfl, N5q, e5⟩ := hQ5
  have N5 := Fr.app N0 N5q
  obtain ⟨T6, h6, k6, X6, e6, E6, A6, Ea6, Ov6, st6⟩ := newRE X5 hx hZ hown (w61 hw) (w62 hw) e5 (g := (mkF m 52 #[.val (.ref r1), .val (.int (1 : Int32)), .val (.int (0 : Int32)), .unset] [(.int (10 : Int32)), (.ref r1)])) rfl (hb hby d9_52) rfl (by decide) (cap := 10) (by decide) (by decide) (by decide) (by decide) (ad := sN4) (by decide)
  obtain ⟨b6, gq6⟩ : ∃ z, z = h0.size := ⟨_, rfl⟩
  rw [← gq6] at A6 st6 Ea6
  have g_b6 : n0 ≤ b6 := Nat.le_trans ((O0.1 ▸ O0.2.1) : n0 ≤ h0.size) (Nat.le_of_eq gq6.symm)
  have sz_b6 : h0.size ≤ b6 := Nat.le_trans (Keep.refl h0 [r1]).1 (Nat.le_of_eq gq6.symm)
  have KK6 : Keep h0 h6 [r1] := (Keep.refl h0 [r1]).ext E6
  have O6 := O0.ext E6
  have V6 : Arv Z h6 b6 k6 (.object sN1) (10 : Int32) [.null, .null, .null, .null, .null, .null, .null, .null, .null, .null] .null := (Arv.new A6 (by decide)).pad (pad_rep [] .null 10)
  obtain ⟨T7, h7, X7, e7, W7, st7⟩ := putF X6 hx hZ hown (host := "") (Or.inl (w24 hw)) Via.refl e6 (P1.ext E6) (P6.ext E6) (Or.inl (w25 hw)) (w1 hw) (ty := (.array (.object sN1))) (by decide) rfl rfl (g := (mkF m 56 #[.val (.ref r1), .val (.int (1 : Int32)), .val (.int (0 : Int32)), .unset] [(.ref b6), (.ref r1), (.ref b6)])) rfl rfl (hb hby d9_56)
  have Fw7 := (P1.ext E6).same W7
  have KK7 : Keep h0 h7 [r1] := KK6.wr W7 (Or.inl (List.mem_of_getElem? (i := 0) rfl))
  have O7 := O6.wr W7 P7
  have N7 := Fr.snoc X7 N5 P7
  have nz8 : b6 ≠ r1 := (ne_exa Ea6 (P6.ext E6) (by decide))
  have fc9 := ((P4.ext E6).other W7 (Or.inr (slot_ne (Or.inl (w41 hw)) (Or.inl (w25 hw)) (by decide) (t := .int) (t' := (.array (.object sN1))) (by decide) (by decide))))
  have fc10 := ((P5.ext E6).other W7 (Or.inr (slot_ne (Or.inl (w22 hw)) (Or.inl (w25 hw)) (by decide) (t := .int) (t' := (.array (.object sN1))) (by decide) (by decide))))
  refine ⟨(some (.ref b6)), _, _, _, _, X7, (fun h => nomatch h), ?_, by decide, by decide, fun fs hr => castTop (ef_9_RI m r1 (1 : Int32)) ?_⟩
  · show Q_rm9_0 Z r1 w_DEF w_kDEF n0 h0 _ T7.heap _
    rw [e7]
    exact ⟨b6, k6, rfl, N7, KK7, sz_b6, Fw7, (Ea6.wr W7), (V6.other W7 nz8), Ov6, fc9, fc10⟩
  · show Steps p.tables e below (s₁.setTop (mkF m 0 #[.val (.ref r1), .val (.int (1 : Int32)), .unset, .unset] [])) _
    refine XS.aloadN X0.here hx rfl (hb hby d9_0) rfl rfl ?_
    refine st1 _ ?_
    refine X1.arraylength hx (by rw [e1]; exact Ar2.1) (State.isArrayOf_alike hZ.alike Ar2.2.1) (g := (mkF m 4 #[.val (.ref r1), .val (.int (1 : Int32)), .unset, .unset] [(.ref w_DEF)])) rfl rfl (hb hby d9_4) _ ?_
    rw [len_of Sr2 Nr2]
    refine XS.istoreN X1.here hx rfl (hb hby d9_5) rfl (l' := #[.val (.ref r1), .val (.int (1 : Int32)), .val (.int (0 : Int32)), .unset]) rfl ?_
    refine XS.iloadN X1.here hx rfl (hb hby d9_6) rfl ?_
    refine XS.ifNo X1.here hx rfl (hb hby d9_7) rfl (by decide) ?_
    refine XS.aloadN X1.here hx rfl (hb hby d9_10) rfl rfl ?_
    refine st3 _ ?_
    show Steps p.tables e below (T3.setTop (mkF m 14 #[.val (.ref r1), .val (.int (1 : Int32)), .val (.int (0 : Int32)), .unset] [(.ref w_DEF)])) _
    refine st4 _ ?_
    refine Jvm.RoadKit.acmp (g := (mkF m 17 #[.val (.ref r1), .val (.int (1 : Int32)), .val (.int (0 : Int32)), .unset] [(.ref w_DEF), (.ref w_DEF)])) X4 hx rfl rfl rfl (pc0 := 17) (pc' := 45) (same := true) rfl (hb hby d9_17) rfl (decide_eq_true rfl) (by decide) (by decide) ?_
    refine XS.aloadN X4.here hx rfl (hb hby d9_45) rfl rfl ?_
    refine XS.bipush X4.here hx rfl (hb hby d9_46) ?_
    refine XS.iloadN X4.here hx rfl (hb hby d9_48) rfl ?_
    refine st5 _ ?_
    refine st6 _ ?_
    refine XS.dupX1 X6.here hx rfl (hb hby d9_55) rfl rfl rfl ?_
    show Steps p.tables e below (T6.setTop (mkF m 56 #[.val (.ref r1), .val (.int (1 : Int32)), .val (.int (0 : Int32)), .unset] [(.ref b6), (.ref r1), (.ref b6)])) _
    refine st7 _ ?_
    exact retA X7 hx hret rfl rfl rfl (hb hby d9_59) hr
def Q_rm8_0 (Z : State) (r1 : Addr) (w_DEF : Addr) (w_kDEF : ClassId) (n0 : Nat) (h0 : Heap) (v : Option Value) (h : Heap) (L : List Loc) : Prop := ∃ b2_0 : Addr, ∃ kc2_0 : ClassId, v = (some (.ref b2_0)) ∧ Fr n0 L ∧ Keep h0 h [r1] ∧ h0.size ≤ b2_0 ∧ Fld Z h r1 sN0 "elementData" sN4 (.ref b2_0) ∧ Exa Z h b2_0 sN4 ∧ Arv Z h b2_0 kc2_0 (.object sN1) (10 : Int32) [.null, .null, .null, .null, .null, .null, .null, .null, .null, .null] .null ∧ Ovr Z kc2_0 sN1 ∧ Fld Z h r1 sN0 "size" "I" (.int (0 : Int32)) ∧ Fld Z h r1 sN13 "modCount" "I" (.int (1 : Int32))
theorem rm8_0 (l : Launch) (Z : State) (a0 : Array Value) (hw : own_HW a0 Z) (r1 : Addr) (w_DEF : Addr) (w_kDEF : ClassId) (h0 : Heap) (n0 : Nat) (O0 : Old Z n0 h0) (P1 : Fld Z h0 r1 sN0 "size" "I" (.int (0 : Int32))) (P2 : Fld Z h0 r1 sN0 "elementData" sN4 (.ref w_DEF)) (P3 : Arv Z Z.heap w_DEF w_kDEF (.object sN1) (0 : Int32) [] .null) (P4 : Sta Z Z.heap sN0 sN31 sN4 (.ref w_DEF)) (P5 : Fld Z h0 r1 sN13 "modCount" "I" (.int (1 : Int32))) (P6 : Exa Z h0 r1 sN0) (P7 : n0 ≤ r1) :
    own_Ct l Z yN16 jdk_38_method_7_code 1 (some (.array (.object sN1))) ({ frames := 2, cells := 1, slots := 10, locals := 29 } : Room) #[(.ref r1)] h0 (Q_rm8_0 Z r1 w_DEF w_kDEF n0 h0) := by
  refine own_enter (own := sN0) rfl (plainFor_of_name pn_3) ?_
  intro p e s m below meth c s₁ X0 hx hby hml hown hnm hret hZ e0
  have N0 := Fr.nil n0
  obtain ⟨T1, X1, e1, st1⟩ := getF X0 hx hZ hown (host := "") (Or.inl (w40 hw)) Via.refl e0 P1 (g := (mkF m 2 #[.val (.ref r1)] [(.ref r1), (.ref r1)])) rfl rfl (hb hby d8_2)
  obtain ⟨_, T2, L2, X2, hQ2, st2⟩ := own_cP X1 hx hZ hown (w52 hw) (w53 hw) (w55 hw) (w54 hw) (w2 hw) (w56 hw) P6 (rm9_0 l Z a0 hw r1 w_DEF w_kDEF h0 n0 O0 P2 P3 P4 P1 P5 P6 P7) e1 (hb hby d8_7) hml pd_87 [(.int (1 : Int32))] [] (g := (mkF m 7 #[.val (.ref r1)] [(.int (1 : Int32)), (.ref r1)]))
  obtain ⟨b2_0, kc2_0, rfl, N2q, K2, ge_b2_0, f2_0, f2_1, f2_2, ov2_2, f2_3, f2_4⟩ := hQ2
  have g_b2_0 : n0 ≤ b2_0 := Nat.le_trans ((O0.1 ▸ O0.2.1) : n0 ≤ h0.size) ge_b2_0
  have sz_b2_0 : h0.size ≤ b2_0 := Nat.le_trans (Keep.refl h0 [r1]).1 ge_b2_0
  have KK2 : Keep h0 T2.heap [r1] := (Keep.refl h0 [r1]).trans K2 (allS (Or.inl (List.mem_of_getElem? (i := 0) rfl)) all0)
  have O2 := O0.keep K2 (allS P7 all0)
  have N2 := Fr.app N0 N2q
  refine ⟨(some (.ref b2_0)), _, _, _, _, X2, (fun h => nomatch h), ?_, by decide, by decide, fun fs hr => castTop (ef_8_R m r1) ?_⟩
  · show Q_rm8_0 Z r1 w_DEF w_kDEF n0 h0 _ T2.heap _
    exact ⟨b2_0, kc2_0, rfl, N2, KK2, sz_b2_0, f2_0, f2_1, f2_2, ov2_2, f2_3, f2_4⟩
  · show Steps p.tables e below (s₁.setTop (mkF m 0 #[.val (.ref r1)] [])) _
    refine XS.aloadN X0.here hx rfl (hb hby d8_0) rfl rfl ?_
    refine XS.aloadN X0.here hx rfl (hb hby d8_1) rfl rfl ?_
    refine st1 _ ?_
    refine XS.iconst X1.here hx rfl (hb hby d8_5) ?_
    refine XS.iadd X1.here hx rfl (hb hby d8_6) rfl ?_
    show Steps p.tables e below (T1.setTop (mkF m 7 #[.val (.ref r1)] [(.int ((0 : Int32) + (1 : Int32))), (.ref r1)])) _
    rw [fo_0]
    refine st2 _ ?_
    exact retA X2 hx hret rfl rfl rfl (hb hby d8_10) hr
def Q_rm7_2 (Z : State) (r1 : Addr) (w_x0 : Addr) (w_DEF : Addr) (w_kDEF : ClassId) (n0 : Nat) (h0 : Heap) (v : Option Value) (h : Heap) (L : List Loc) : Prop := ∃ b2_0 : Addr, ∃ kc2_0 : ClassId, v = none ∧ Fr n0 L ∧ Keep h0 h [r1] ∧ h0.size ≤ b2_0 ∧ Fld Z h r1 sN0 "elementData" sN4 (.ref b2_0) ∧ Exa Z h b2_0 sN4 ∧ Arv Z h b2_0 kc2_0 (.object sN1) (10 : Int32) [(.ref w_x0), .null, .null, .null, .null, .null, .null, .null, .null, .null] .null ∧ Ovr Z kc2_0 sN1 ∧ Fld Z h r1 sN0 "size" "I" (.int (1 : Int32)) ∧ Fld Z h r1 sN13 "modCount" "I" (.int (1 : Int32))
theorem rm7_2 (l : Launch) (Z : State) (a0 : Array Value) (hw : own_HW a0 Z) (r1 : Addr) (w_x0 : Addr) (w_DEF : Addr) (w_kDEF : ClassId) (h0 : Heap) (n0 : Nat) (O0 : Old Z n0 h0) (P1 : Arv Z Z.heap w_DEF w_kDEF (.object sN1) (0 : Int32) [] .null) (P2 : Fld Z h0 r1 sN0 "size" "I" (.int (0 : Int32))) (P3 : Fld Z h0 r1 sN0 "elementData" sN4 (.ref w_DEF)) (P4 : Sta Z Z.heap sN0 sN31 sN4 (.ref w_DEF)) (P5 : Fld Z h0 r1 sN13 "modCount" "I" (.int (1 : Int32))) (P6 : Exa Z h0 r1 sN0) (P7 : n0 ≤ r1) (P8 : Exa Z Z.heap w_x0 sN9) :
    own_Ct l Z yN3 jdk_38_method_24_code 4 none ({ frames := 3, cells := 1, slots := 10, locals := 41 } : Room) #[(.ref r1), (.ref w_x0), (.ref w_DEF), (.int (0 : Int32))] h0 (Q_rm7_2 Z r1 w_x0 w_DEF w_kDEF n0 h0) := by
  refine own_enter (own := sN0) rfl (plainFor_of_name pn_3) ?_
  intro p e s m below meth c s₁ X0 hx hby hml hown hnm hret hZ e0
  have N0 := Fr.nil n0
  obtain ⟨cl1, Ar1, -, Sr1, Nr1, -, -⟩ := id (P1.ext O0.2)
  obtain ⟨_, T2, L2, X2, hQ2, st2⟩ := own_cP X0 hx hZ hown (w47 hw) (w48 hw) (w50 hw) (w49 hw) (w2 hw) (w51 hw) P6 (rm8_0 l Z a0 hw r1 w_DEF w_kDEF h0 n0 O0 P2 P3 P1 P4 P5 P6 P7) e0 (hb hby d7_7) hml pd_33 [] [] (g := (mkF m 7 #[.val (.ref r1), .val (.ref w_x0), .val (.ref w_DEF), .val (.int (0 : Int32))] [(.ref r1)]))
  obtain ⟨b2_0, kc2_0, rfl, N2q, K2, ge_b2_0, f2_0, f2_1, f2_2, ov2_2, f2_3, f2_4⟩ := hQ2
  have g_b2_0 : n0 ≤ b2_0 := Nat.le_trans ((O0.1 ▸ O0.2.1) : n0 ≤ h0.size) ge_b2_0
  have sz_b2_0 : h0.size ≤ b2_0 := Nat.le_trans (Keep.refl h0 [r1]).1 ge_b2_0
  have KK2 : Keep h0 T2.heap [r1] := (Keep.refl h0 [r1]).trans K2 (allS (Or.inl (List.mem_of_getElem? (i := 0) rfl)) all0)
  have O2 := O0.keep K2 (allS P7 all0)
  have N2 := Fr.app N0 N2q
  obtain ⟨cl3, Ar3, qr3, Sr3, Nr3, Hr3, Gr3⟩ := id f2_2
  have hin3 : ¬ ((0 : Int32) < 0 ∨ cl3.slots.size ≤ ((0 : Int32) : Int32).toNatClampNeg) := inb_of Sr3 ⟨by decide, by decide⟩
  obtain ⟨T4, h4, X4, e4, W4, st4⟩ := stR X2 hx hZ rfl Ar3 (j := (0 : Int32)) hin3 rfl (Sto.ofV Ar3 qr3 ov2_2 (Ins.of_exa (P8.ext O2.2) (w63 hw))) (g := (mkF m 14 #[.val (.ref r1), .val (.ref w_x0), .val (.ref b2_0), .val (.int (0 : Int32))] [(.ref w_x0), (.int (0 : Int32)), (.ref b2_0)])) rfl rfl (hb hby d7_14)
  have V4 : Arv Z h4 b2_0 kc2_0 (.object sN1) (10 : Int32) [(.ref w_x0), .null, .null, .null, .null, .null, .null, .null, .null, .null] .null := Arv.set Ar3 qr3 Sr3 Nr3 Hr3 Gr3 rfl W4 0 rfl (Nat.le_of_ble_eq_true rfl)
  have KK4 : Keep h0 h4 [r1] := KK2.wr W4 (Or.inr sz_b2_0)
  have O4 := O2.wr W4 g_b2_0
  have N4 := Fr.snoc X4 N2 g_b2_0
  have nz5 : r1 ≠ b2_0 := (ne_exa (P6.keep K2) f2_1 (by decide))
  obtain ⟨T6, h6, X6, e6, W6, st6⟩ := putF X4 hx hZ hown (host := "") (Or.inl (w40 hw)) Via.refl e4 (f2_3.other W4 (Or.inl nz5)) ((P6.keep K2).wr W4) (Or.inl (w41 hw)) (w1 hw) (ty := .int) (by decide) rfl rfl (g := (mkF m 19 #[.val (.ref r1), .val (.ref w_x0), .val (.ref b2_0), .val (.int (0 : Int32))] [(.int (1 : Int32)), (.ref r1)])) rfl rfl (hb hby d7_19)
  have Fw6 := (f2_3.other W4 (Or.inl nz5)).same W6
  have KK6 : Keep h0 h6 [r1] := KK4.wr W6 (Or.inl (List.mem_of_getElem? (i := 0) rfl))
  have O6 := O4.wr W6 P7
  have N6 := Fr.snoc X6 N4 P7
  have fc7 := ((f2_0.other W4 (Or.inl nz5)).other W6 (Or.inr (slot_ne (Or.inl (w25 hw)) (Or.inl (w41 hw)) (by decide) (t := (.array (.object sN1))) (t' := .int) (by decide) (by decide))))
  have fc8 := ((f2_4.other W4 (Or.inl nz5)).other W6 (Or.inr (slot_ne (Or.inl (w22 hw)) (Or.inl (w41 hw)) (by decide) (t := .int) (t' := .int) (by decide) (by decide))))
  refine ⟨none, _, _, _, _, X6, (fun _ => rfl), ?_, by decide, by decide, fun fs hr => castTop (ef_7_RRRI m r1 w_x0 w_DEF (0 : Int32)) ?_⟩
  · show Q_rm7_2 Z r1 w_x0 w_DEF w_kDEF n0 h0 _ T6.heap _
    rw [e6]
    exact ⟨b2_0, kc2_0, rfl, N6, KK6, sz_b2_0, fc7, ((f2_1.wr W4).wr W6), (V4.other W6 nz5.symm), ov2_2, Fw6, fc8⟩
  · show Steps p.tables e below (s₁.setTop (mkF m 0 #[.val (.ref r1), .val (.ref w_x0), .val (.ref w_DEF), .val (.int (0 : Int32))] [])) _
    refine XS.iloadN X0.here hx rfl (hb hby d7_0) rfl ?_
    refine XS.aloadN X0.here hx rfl (hb hby d7_1) rfl rfl ?_
    refine X0.arraylength hx (by rw [e0]; exact Ar1.1) (State.isArrayOf_alike hZ.alike Ar1.2.1) (g := (mkF m 2 #[.val (.ref r1), .val (.ref w_x0), .val (.ref w_DEF), .val (.int (0 : Int32))] [(.ref w_DEF), (.int (0 : Int32))])) rfl rfl (hb hby d7_2) _ ?_
    rw [len_of Sr1 Nr1]
    refine XS.icmpNo X0.here hx rfl (hb hby d7_3) rfl (by decide) ?_
    refine XS.aloadN X0.here hx rfl (hb hby d7_6) rfl rfl ?_
    refine st2 _ ?_
    refine XS.astoreN X2.here hx rfl (hb hby d7_10) rfl rfl (l' := #[.val (.ref r1), .val (.ref w_x0), .val (.ref b2_0), .val (.int (0 : Int32))]) rfl ?_
    refine XS.aloadN X2.here hx rfl (hb hby d7_11) rfl rfl ?_
    show Steps p.tables e below (T2.setTop (mkF m 12 #[.val (.ref r1), .val (.ref w_x0), .val (.ref b2_0), .val (.int (0 : Int32))] [(.ref b2_0)])) _
    refine XS.iloadN X2.here hx rfl (hb hby d7_12) rfl ?_
    refine XS.aloadN X2.here hx rfl (hb hby d7_13) rfl rfl ?_
    refine st4 _ ?_
    refine XS.aloadN X4.here hx rfl (hb hby d7_15) rfl rfl ?_
    refine XS.iloadN X4.here hx rfl (hb hby d7_16) rfl ?_
    refine XS.iconst X4.here hx rfl (hb hby d7_17) ?_
    refine XS.iadd X4.here hx rfl (hb hby d7_18) rfl ?_
    show Steps p.tables e below (T4.setTop (mkF m 19 #[.val (.ref r1), .val (.ref w_x0), .val (.ref b2_0), .val (.int (0 : Int32))] [(.int ((0 : Int32) + (1 : Int32))), (.ref r1)])) _
    rw [fo_0]
    refine st6 _ ?_
    exact X6.returnOut hx hret (hb hby d7_22) hr
def Q_rm6_2 (Z : State) (r1 : Addr) (w_x0 : Addr) (w_DEF : Addr) (w_kDEF : ClassId) (n0 : Nat) (h0 : Heap) (v : Option Value) (h : Heap) (L : List Loc) : Prop := ∃ b7_0 : Addr, ∃ kc7_0 : ClassId, v = (some (.int (1 : Int32))) ∧ Fr n0 L ∧ Keep h0 h [r1] ∧ h0.size ≤ b7_0 ∧ Fld Z h r1 sN0 "elementData" sN4 (.ref b7_0) ∧ Exa Z h b7_0 sN4 ∧ Arv Z h b7_0 kc7_0 (.object sN1) (10 : Int32) [(.ref w_x0), .null, .null, .null, .null, .null, .null, .null, .null, .null] .null ∧ Ovr Z kc7_0 sN1 ∧ Fld Z h r1 sN0 "size" "I" (.int (1 : Int32)) ∧ Fld Z h r1 sN13 "modCount" "I" (.int (1 : Int32))
theorem rm6_2 (l : Launch) (Z : State) (a0 : Array Value) (hw : own_HW a0 Z) (r1 : Addr) (w_x0 : Addr) (w_DEF : Addr) (w_kDEF : ClassId) (h0 : Heap) (n0 : Nat) (O0 : Old Z n0 h0) (P1 : Fld Z h0 r1 sN13 "modCount" "I" (.int (0 : Int32))) (P2 : Exa Z h0 r1 sN0) (P3 : Fld Z h0 r1 sN0 "size" "I" (.int (0 : Int32))) (P4 : Fld Z h0 r1 sN0 "elementData" sN4 (.ref w_DEF)) (P5 : n0 ≤ r1) (P6 : Arv Z Z.heap w_DEF w_kDEF (.object sN1) (0 : Int32) [] .null) (P7 : Sta Z Z.heap sN0 sN31 sN4 (.ref w_DEF)) (P8 : Exa Z Z.heap w_x0 sN9) :
    own_Ct l Z yN1 jdk_38_method_25_code 2 (some .boolean) ({ frames := 4, cells := 1, slots := 10, locals := 56 } : Room) #[(.ref r1), (.ref w_x0)] h0 (Q_rm6_2 Z r1 w_x0 w_DEF w_kDEF n0 h0) := by
  refine own_enter (own := sN0) rfl (plainFor_of_name pn_3) ?_
  intro p e s m below meth c s₁ X0 hx hby hml hown hnm hret hZ e0
  have N0 := Fr.nil n0
  obtain ⟨T1, X1, e1, st1⟩ := getF X0 hx hZ hown (host := "") (Or.inl (w38 hw)) (Via.of (w39 hw)) e0 P1 (g := (mkF m 2 #[.val (.ref r1), .val (.ref w_x0)] [(.ref r1), (.ref r1)])) rfl rfl (hb hby d6_2)
  obtain ⟨T2, h2, X2, e2, W2, st2⟩ := putF X1 hx hZ hown (host := "") (Or.inl (w38 hw)) (Via.of (w39 hw)) e1 P1 P2 (Or.inl (w22 hw)) (w1 hw) (ty := .int) (by decide) rfl rfl (g := (mkF m 7 #[.val (.ref r1), .val (.ref w_x0)] [(.int (1 : Int32)), (.ref r1)])) rfl rfl (hb hby d6_7)
  have Fw2 := P1.same W2
  have KK2 : Keep h0 h2 [r1] := (Keep.refl h0 [r1]).wr W2 (Or.inl (List.mem_of_getElem? (i := 0) rfl))
  have O2 := O0.wr W2 P5
  have N2 := Fr.snoc X2 N0 P5
  have fc3 := (P4.other W2 (Or.inr (slot_ne (Or.inl (w25 hw)) (Or.inl (w22 hw)) (by decide) (t := (.array (.object sN1))) (t' := .int) (by decide) (by decide))))
  obtain ⟨T4, X4, e4, st4⟩ := getF X2 hx hZ hown (host := "") (Or.inl (w24 hw)) Via.refl e2 fc3 (g := (mkF m 13 #[.val (.ref r1), .val (.ref w_x0)] [(.ref r1), (.ref w_x0), (.ref r1)])) rfl rfl (hb hby d6_13)
  have fc5 := (P3.other W2 (Or.inr (slot_ne (Or.inl (w41 hw)) (Or.inl (w22 hw)) (by decide) (t := .int) (t' := .int) (by decide) (by decide))))
  obtain ⟨T6, X6, e6, st6⟩ := getF X4 hx hZ hown (host := "") (Or.inl (w40 hw)) Via.refl e4 fc5 (g := (mkF m 17 #[.val (.ref r1), .val (.ref w_x0)] [(.ref r1), (.ref w_DEF), (.ref w_x0), (.ref r1)])) rfl rfl (hb hby d6_17)
  obtain ⟨_, T7, L7, X7, hQ7, st7⟩ := own_cP X6 hx hZ hown (w42 hw) (w43 hw) (w45 hw) (w44 hw) (w2 hw) (w46 hw) (P2.wr W2) (rm7_2 l Z a0 hw r1 w_x0 w_DEF w_kDEF h2 n0 O2 P6 fc5 fc3 P7 Fw2 (P2.wr W2) P5 P8) e6 (hb hby d6_20) hml pd_76 [(.ref w_x0), (.ref w_DEF), (.int (0 : Int32))] [] (g := (mkF m 20 #[.val (.ref r1), .val (.ref w_x0)] [(.int (0 : Int32)), (.ref w_DEF), (.ref w_x0), (.ref r1)]))
  obtain ⟨b7_0, kc7_0, rfl, N7q, K7, ge_b7_0, f7_0, f7_1, f7_2, ov7_2, f7_3, f7_4⟩ := hQ7
  have g_b7_0 : n0 ≤ b7_0 := Nat.le_trans ((O2.1 ▸ O2.2.1) : n0 ≤ h2.size) ge_b7_0
  have sz_b7_0 : h0.size ≤ b7_0 := Nat.le_trans KK2.1 ge_b7_0
  have KK7 : Keep h0 T7.heap [r1] := KK2.trans K7 (allS (Or.inl (List.mem_of_getElem? (i := 0) rfl)) all0)
  have O7 := O2.keep K7 (allS P5 all0)
  have N7 := Fr.app N2 N7q
  refine ⟨(some (.int (1 : Int32))), _, _, _, _, X7, (fun h => nomatch h), ?_, by decide, by decide, fun fs hr => castTop (ef_6_RR m r1 w_x0) ?_⟩
  · show Q_rm6_2 Z r1 w_x0 w_DEF w_kDEF n0 h0 _ T7.heap _
    exact ⟨b7_0, kc7_0, rfl, N7, KK7, sz_b7_0, f7_0, f7_1, f7_2, ov7_2, f7_3, f7_4⟩
  · show Steps p.tables e below (s₁.setTop (mkF m 0 #[.val (.ref r1), .val (.ref w_x0)] [])) _
    refine XS.aloadN X0.here hx rfl (hb hby d6_0) rfl rfl ?_
    refine XS.dup X0.here hx rfl (hb hby d6_1) rfl rfl ?_
    refine st1 _ ?_
    refine XS.iconst X1.here hx rfl (hb hby d6_5) ?_
    refine XS.iadd X1.here hx rfl (hb hby d6_6) rfl ?_
    show Steps p.tables e below (T1.setTop (mkF m 7 #[.val (.ref r1), .val (.ref w_x0)] [(.int ((0 : Int32) + (1 : Int32))), (.ref r1)])) _
    rw [fo_0]
    refine st2 _ ?_
    refine XS.aloadN X2.here hx rfl (hb hby d6_10) rfl rfl ?_
    refine XS.aloadN X2.here hx rfl (hb hby d6_11) rfl rfl ?_
    refine XS.aloadN X2.here hx rfl (hb hby d6_12) rfl rfl ?_
    refine st4 _ ?_
    refine XS.aloadN X4.here hx rfl (hb hby d6_16) rfl rfl ?_
    refine st6 _ ?_
    show Steps p.tables e below (T6.setTop (mkF m 20 #[.val (.ref r1), .val (.ref w_x0)] [(.int (0 : Int32)), (.ref w_DEF), (.ref w_x0), (.ref r1)])) _
    refine st7 _ ?_
    refine XS.iconst X7.here hx rfl (hb hby d6_23) ?_
    exact retN X7 hx (t := .boolean) hret (by simp) (hb hby d6_24) hr
theorem own_A0 (l : Launch) (Z : State) (a0 : Array Value) (hw : own_HW a0 Z) (r1 x b r' b' : Addr) (n : Int32) (w_BOOLEAN w_DEF : Addr) (w_kDEF : ClassId) (h0 : Heap) (n0 : Nat) (O0 : Old Z n0 h0) (GV : Arv Z Z.heap w_DEF w_kDEF (.object sN1) (0 : Int32) [] .null) (GS : Sta Z Z.heap sN0 sN31 sN4 (.ref w_DEF)) (q : own_El Z w_BOOLEAN x) (LL : own_LL Z n0 w_DEF w_BOOLEAN h0 r1 b (0 : Int32) r' b' n) :
    own_Ct l Z yN1 jdk_38_method_25_code 2 (some .boolean) ({ frames := 4, cells := 1, slots := 10, locals := 56 } : Room) #[(.ref r1), (.ref x)] h0 (own_QA Z n0 w_DEF w_BOOLEAN r1 (1 : Int32) r' b' n) := by
  obtain ⟨⟨z, E, M, S, D, t, c⟩, LS, nr, nb⟩ := LL
  obtain ⟨-, eb⟩ | ⟨-, -, k, -, ⟨e, -⟩ | ⟨e, -⟩ | ⟨e, -⟩⟩ := c
  · rw [eb] at D
    refine own_Ct_mono (rm6_2 l Z a0 hw r1 x w_DEF w_kDEF h0 n0 O0 M E S D z GV GS q.1) ?_
    rintro v h L ⟨b1, k, rfl, N, K, g, D', Eb, V, o, S', M'⟩
    have zb : n0 ≤ b1 := Nat.le_trans (O0.1 ▸ O0.2.1) g
    exact ⟨rfl, N, O0.keep K (allS z all0), b1, ⟨z, E.keep K, M', S', D', Eb.lt, Or.inr ⟨zb, Eb, k, o, Or.inl ⟨rfl, x, q, V⟩⟩⟩, own_LS_keep LS K (ninS nr.symm nin0) (fun _ Eb' => ninS (ne_exa Eb' E (by decide)) nin0), nr, fun _ e => absurd LS.2.2.2.2.2.1 (Nat.not_lt.mpr (e ▸ g))⟩
  all_goals exact absurd e (by decide)
def Q_rm7_3 (Z : State) (r1 : Addr) (w_x1 : Addr) (r2 : Addr) (w_x0 : Addr) (k_r2 : ClassId) (n0 : Nat) (h0 : Heap) (v : Option Value) (h : Heap) (L : List Loc) : Prop := v = none ∧ Fr n0 L ∧ Keep h0 h [r2, r1] ∧ Arv Z h r2 k_r2 (.object sN1) (10 : Int32) [(.ref w_x0), (.ref w_x1), .null, .null, .null, .null, .null, .null, .null, .null] .null ∧ Ovr Z k_r2 sN1 ∧ Fld Z h r1 sN13 "modCount" "I" (.int (2 : Int32)) ∧ Fld Z h r1 sN0 "size" "I" (.int (2 : Int32)) ∧ Fld Z h r1 sN0 "elementData" sN4 (.ref r2)
theorem rm7_3 (l : Launch) (Z : State) (a0 : Array Value) (hw : own_HW a0 Z) (r1 : Addr) (w_x1 : Addr) (r2 : Addr) (w_x0 : Addr) (k_r2 : ClassId) (h0 : Heap) (n0 : Nat) (O0 : Old Z n0 h0) (P1 : Ovr Z k_r2 sN1) (P2 : Arv Z h0 r2 k_r2 (.object sN1) (10 : Int32) [(.ref w_x0), .null, .null, .null, .null, .null, .null, .null, .null, .null] .null) (P3 : Exa Z Z.heap w_x1 sN9) (P4 : n0 ≤ r2) (P5 : Fld Z h0 r1 sN13 "modCount" "I" (.int (2 : Int32))) (P6 : Exa Z h0 r1 sN0) (P7 : Exa Z h0 r2 sN4) (P8 : Fld Z h0 r1 sN0 "size" "I" (.int (1 : Int32))) (P9 : Fld Z h0 r1 sN0 "elementData" sN4 (.ref r2)) (P10 : n0 ≤ r1) :
    own_Ct l Z yN3 jdk_38_method_24_code 4 none ({ frames := 0, cells := 0, slots := 0, locals := 0 } : Room) #[(.ref r1), (.ref w_x1), (.ref r2), (.int (1 : Int32))] h0 (Q_rm7_3 Z r1 w_x1 r2 w_x0 k_r2 n0 h0) := by
  refine own_enter (own := sN0) rfl (plainFor_of_name pn_3) ?_
  intro p e s m below meth c s₁ X0 hx hby hml hown hnm hret hZ e0
  have N0 := Fr.nil n0
  obtain ⟨cl1, Ar1, -, Sr1, Nr1, -, -⟩ := id P2
  obtain ⟨cl2, Ar2, qr2, Sr2, Nr2, Hr2, Gr2⟩ := id P2
  have hin2 : ¬ ((1 : Int32) < 0 ∨ cl2.slots.size ≤ ((1 : Int32) : Int32).toNatClampNeg) := inb_of Sr2 ⟨by decide, by decide⟩
  obtain ⟨T3, h3, X3, e3, W3, st3⟩ := stR X0 hx hZ e0 Ar2 (j := (1 : Int32)) hin2 rfl (Sto.ofV Ar2 qr2 P1 (Ins.of_exa (P3.ext O0.2) (w63 hw))) (g := (mkF m 14 #[.val (.ref r1), .val (.ref w_x1), .val (.ref r2), .val (.int (1 : Int32))] [(.ref w_x1), (.int (1 : Int32)), (.ref r2)])) rfl rfl (hb hby d7_14)
  have V3 : Arv Z h3 r2 k_r2 (.object sN1) (10 : Int32) [(.ref w_x0), (.ref w_x1), .null, .null, .null, .null, .null, .null, .null, .null] .null := Arv.set Ar2 qr2 Sr2 Nr2 Hr2 Gr2 rfl W3 1 rfl (Nat.le_of_ble_eq_true rfl)
  have KK3 : Keep h0 h3 [r2, r1] := (Keep.refl h0 [r2, r1]).wr W3 (Or.inl (List.mem_of_getElem? (i := 0) rfl))
  have O3 := O0.wr W3 P4
  have N3 := Fr.snoc X3 N0 P4
  have nz4 : r1 ≠ r2 := (ne_exa P6 P7 (by decide))
  obtain ⟨T5, h5, X5, e5, W5, st5⟩ := putF X3 hx hZ hown (host := "") (Or.inl (w40 hw)) Via.refl e3 (P8.other W3 (Or.inl nz4)) (P6.wr W3) (Or.inl (w41 hw)) (w1 hw) (ty := .int) (by decide) rfl rfl (g := (mkF m 19 #[.val (.ref r1), .val (.ref w_x1), .val (.ref r2), .val (.int (1 : Int32))] [(.int (2 : Int32)), (.ref r1)])) rfl rfl (hb hby d7_19)
  have Fw5 := (P8.other W3 (Or.inl nz4)).same W5
  have KK5 : Keep h0 h5 [r2, r1] := KK3.wr W5 (Or.inl (List.mem_of_getElem? (i := 1) rfl))
  have O5 := O3.wr W5 P10
  have N5 := Fr.snoc X5 N3 P10
  have fc6 := ((P5.other W3 (Or.inl nz4)).other W5 (Or.inr (slot_ne (Or.inl (w22 hw)) (Or.inl (w41 hw)) (by decide) (t := .int) (t' := .int) (by decide) (by decide))))
  have fc7 := ((P9.other W3 (Or.inl nz4)).other W5 (Or.inr (slot_ne (Or.inl (w25 hw)) (Or.inl (w41 hw)) (by decide) (t := (.array (.object sN1))) (t' := .int) (by decide) (by decide))))
  refine ⟨none, _, _, _, _, X5, (fun _ => rfl), ?_, by decide, by decide, fun fs hr => castTop (ef_7_RRRI m r1 w_x1 r2 (1 : Int32)) ?_⟩
  · show Q_rm7_3 Z r1 w_x1 r2 w_x0 k_r2 n0 h0 _ T5.heap _
    rw [e5]
    exact ⟨rfl, N5, KK5, (V3.other W5 nz4.symm), P1, fc6, Fw5, fc7⟩
  · show Steps p.tables e below (s₁.setTop (mkF m 0 #[.val (.ref r1), .val (.ref w_x1), .val (.ref r2), .val (.int (1 : Int32))] [])) _
    refine XS.iloadN X0.here hx rfl (hb hby d7_0) rfl ?_
    refine XS.aloadN X0.here hx rfl (hb hby d7_1) rfl rfl ?_
    refine X0.arraylength hx (by rw [e0]; exact Ar1.1) (State.isArrayOf_alike hZ.alike Ar1.2.1) (g := (mkF m 2 #[.val (.ref r1), .val (.ref w_x1), .val (.ref r2), .val (.int (1 : Int32))] [(.ref r2), (.int (1 : Int32))])) rfl rfl (hb hby d7_2) _ ?_
    rw [len_of Sr1 Nr1]
    refine XS.icmpYes X0.here hx rfl (pc0 := 3) (pc' := 11) rfl (hb hby d7_3) rfl (by decide) (by decide) (by decide) ?_
    refine XS.aloadN X0.here hx rfl (hb hby d7_11) rfl rfl ?_
    refine XS.iloadN X0.here hx rfl (hb hby d7_12) rfl ?_
    refine XS.aloadN X0.here hx rfl (hb hby d7_13) rfl rfl ?_
    refine st3 _ ?_
    show Steps p.tables e below (T3.setTop (mkF m 15 #[.val (.ref r1), .val (.ref w_x1), .val (.ref r2), .val (.int (1 : Int32))] [])) _
    refine XS.aloadN X3.here hx rfl (hb hby d7_15) rfl rfl ?_
    refine XS.iloadN X3.here hx rfl (hb hby d7_16) rfl ?_
    refine XS.iconst X3.here hx rfl (hb hby d7_17) ?_
    refine XS.iadd X3.here hx rfl (hb hby d7_18) rfl ?_
    show Steps p.tables e below (T3.setTop (mkF m 19 #[.val (.ref r1), .val (.ref w_x1), .val (.ref r2), .val (.int (1 : Int32))] [(.int ((1 : Int32) + (1 : Int32))), (.ref r1)])) _
    rw [fo_1]
    refine st5 _ ?_
    exact X5.returnOut hx hret (hb hby d7_22) hr
def Q_rm6_3 (Z : State) (r1 : Addr) (w_x1 : Addr) (r3 : Addr) (k_r3 : ClassId) (w_x0 : Addr) (n0 : Nat) (h0 : Heap) (v : Option Value) (h : Heap) (L : List Loc) : Prop := v = (some (.int (1 : Int32))) ∧ Fr n0 L ∧ Keep h0 h [r1, r3] ∧ Arv Z h r3 k_r3 (.object sN1) (10 : Int32) [(.ref w_x0), (.ref w_x1), .null, .null, .null, .null, .null, .null, .null, .null] .null ∧ Ovr Z k_r3 sN1 ∧ Fld Z h r1 sN13 "modCount" "I" (.int (2 : Int32)) ∧ Fld Z h r1 sN0 "size" "I" (.int (2 : Int32)) ∧ Fld Z h r1 sN0 "elementData" sN4 (.ref r3)
theorem rm6_3 (l : Launch) (Z : State) (a0 : Array Value) (hw : own_HW a0 Z) (r1 : Addr) (w_x1 : Addr) (r3 : Addr) (k_r3 : ClassId) (w_x0 : Addr) (h0 : Heap) (n0 : Nat) (O0 : Old Z n0 h0) (P1 : Fld Z h0 r1 sN13 "modCount" "I" (.int (1 : Int32))) (P2 : Exa Z h0 r1 sN0) (P3 : Fld Z h0 r1 sN0 "size" "I" (.int (1 : Int32))) (P4 : Fld Z h0 r1 sN0 "elementData" sN4 (.ref r3)) (P5 : n0 ≤ r1) (P6 : Ovr Z k_r3 sN1) (P7 : Arv Z h0 r3 k_r3 (.object sN1) (10 : Int32) [(.ref w_x0), .null, .null, .null, .null, .null, .null, .null, .null, .null] .null) (P8 : Exa Z h0 r3 sN4) (P9 : Exa Z Z.heap w_x1 sN9) (P10 : n0 ≤ r3) :
    own_Ct l Z yN1 jdk_38_method_25_code 2 (some .boolean) ({ frames := 4, cells := 1, slots := 10, locals := 56 } : Room) #[(.ref r1), (.ref w_x1)] h0 (Q_rm6_3 Z r1 w_x1 r3 k_r3 w_x0 n0 h0) := by
  refine own_enter (own := sN0) rfl (plainFor_of_name pn_3) ?_
  intro p e s m below meth c s₁ X0 hx hby hml hown hnm hret hZ e0
  have N0 := Fr.nil n0
  obtain ⟨T1, X1, e1, st1⟩ := getF X0 hx hZ hown (host := "") (Or.inl (w38 hw)) (Via.of (w39 hw)) e0 P1 (g := (mkF m 2 #[.val (.ref r1), .val (.ref w_x1)] [(.ref r1), (.ref r1)])) rfl rfl (hb hby d6_2)
  obtain ⟨T2, h2, X2, e2, W2, st2⟩ := putF X1 hx hZ hown (host := "") (Or.inl (w38 hw)) (Via.of (w39 hw)) e1 P1 P2 (Or.inl (w22 hw)) (w1 hw) (ty := .int) (by decide) rfl rfl (g := (mkF m 7 #[.val (.ref r1), .val (.ref w_x1)] [(.int (2 : Int32)), (.ref r1)])) rfl rfl (hb hby d6_7)
  have Fw2 := P1.same W2
  have KK2 : Keep h0 h2 [r1, r3] := (Keep.refl h0 [r1, r3]).wr W2 (Or.inl (List.mem_of_getElem? (i := 0) rfl))
  have O2 := O0.wr W2 P5
  have N2 := Fr.snoc X2 N0 P5
  have fc3 := (P4.other W2 (Or.inr (slot_ne (Or.inl (w25 hw)) (Or.inl (w22 hw)) (by decide) (t := (.array (.object sN1))) (t' := .int) (by decide) (by decide))))
  obtain ⟨T4, X4, e4, st4⟩ := getF X2 hx hZ hown (host := "") (Or.inl (w24 hw)) Via.refl e2 fc3 (g := (mkF m 13 #[.val (.ref r1), .val (.ref w_x1)] [(.ref r1), (.ref w_x1), (.ref r1)])) rfl rfl (hb hby d6_13)
  have fc5 := (P3.other W2 (Or.inr (slot_ne (Or.inl (w41 hw)) (Or.inl (w22 hw)) (by decide) (t := .int) (t' := .int) (by decide) (by decide))))
  obtain ⟨T6, X6, e6, st6⟩ := getF X4 hx hZ hown (host := "") (Or.inl (w40 hw)) Via.refl e4 fc5 (g := (mkF m 17 #[.val (.ref r1), .val (.ref w_x1)] [(.ref r1), (.ref r3), (.ref w_x1), (.ref r1)])) rfl rfl (hb hby d6_17)
  have nz7 : r3 ≠ r1 := (ne_exa P8 P2 (by decide))
  obtain ⟨_, T8, L8, X8, hQ8, st8⟩ := own_cP X6 hx hZ hown (w42 hw) (w43 hw) (w45 hw) (w44 hw) (w2 hw) (w46 hw) (P2.wr W2) (rm7_3 l Z a0 hw r1 w_x1 r3 w_x0 k_r3 h2 n0 O2 P6 (P7.other W2 nz7) P9 P10 Fw2 (P2.wr W2) (P8.wr W2) fc5 fc3 P5) e6 (hb hby d6_20) hml pd_76 [(.ref w_x1), (.ref r3), (.int (1 : Int32))] [] (g := (mkF m 20 #[.val (.ref r1), .val (.ref w_x1)] [(.int (1 : Int32)), (.ref r3), (.ref w_x1), (.ref r1)]))
  obtain ⟨rfl, N8q, K8, f8_0, ov8_0, f8_1, f8_2, f8_3⟩ := hQ8
  have KK8 : Keep h0 T8.heap [r1, r3] := KK2.trans K8 (allS (Or.inl (List.mem_of_getElem? (i := 1) rfl)) (allS (Or.inl (List.mem_of_getElem? (i := 0) rfl)) all0))
  have O8 := O2.keep K8 (allS P10 (allS P5 all0))
  have N8 := Fr.app N2 N8q
  refine ⟨(some (.int (1 : Int32))), _, _, _, _, X8, (fun h => nomatch h), ?_, by decide, by decide, fun fs hr => castTop (ef_6_RR m r1 w_x1) ?_⟩
  · show Q_rm6_3 Z r1 w_x1 r3 k_r3 w_x0 n0 h0 _ T8.heap _
    exact ⟨rfl, N8, KK8, f8_0, ov8_0, f8_1, f8_2, f8_3⟩
  · show Steps p.tables e below (s₁.setTop (mkF m 0 #[.val (.ref r1), .val (.ref w_x1)] [])) _
    refine XS.aloadN X0.here hx rfl (hb hby d6_0) rfl rfl ?_
    refine XS.dup X0.here hx rfl (hb hby d6_1) rfl rfl ?_
    refine st1 _ ?_
    refine XS.iconst X1.here hx rfl (hb hby d6_5) ?_
    refine XS.iadd X1.here hx rfl (hb hby d6_6) rfl ?_
    show Steps p.tables e below (T1.setTop (mkF m 7 #[.val (.ref r1), .val (.ref w_x1)] [(.int ((1 : Int32) + (1 : Int32))), (.ref r1)])) _
    rw [fo_1]
    refine st2 _ ?_
    refine XS.aloadN X2.here hx rfl (hb hby d6_10) rfl rfl ?_
    refine XS.aloadN X2.here hx rfl (hb hby d6_11) rfl rfl ?_
    refine XS.aloadN X2.here hx rfl (hb hby d6_12) rfl rfl ?_
    refine st4 _ ?_
    refine XS.aloadN X4.here hx rfl (hb hby d6_16) rfl rfl ?_
    refine st6 _ ?_
    show Steps p.tables e below (T6.setTop (mkF m 20 #[.val (.ref r1), .val (.ref w_x1)] [(.int (1 : Int32)), (.ref r3), (.ref w_x1), (.ref r1)])) _
    refine st8 _ ?_
    refine XS.iconst X8.here hx rfl (hb hby d6_23) ?_
    exact retN X8 hx (t := .boolean) hret (by simp) (hb hby d6_24) hr
theorem own_A1 (l : Launch) (Z : State) (a0 : Array Value) (hw : own_HW a0 Z) (r1 x b r' b' : Addr) (n : Int32) (w_BOOLEAN w_DEF : Addr) (h0 : Heap) (n0 : Nat) (O0 : Old Z n0 h0)  (q : own_El Z w_BOOLEAN x) (LL : own_LL Z n0 w_DEF w_BOOLEAN h0 r1 b (1 : Int32) r' b' n) :
    own_Ct l Z yN1 jdk_38_method_25_code 2 (some .boolean) ({ frames := 4, cells := 1, slots := 10, locals := 56 } : Room) #[(.ref r1), (.ref x)] h0 (own_QA Z n0 w_DEF w_BOOLEAN r1 (2 : Int32) r' b' n) := by
  obtain ⟨⟨z, E, M, S, D, t, c⟩, LS, nr, nb⟩ := LL
  obtain ⟨e, -⟩ | ⟨zb, Eb, k, o, ⟨-, e0, q0, V⟩ | ⟨e, -⟩ | ⟨e, -⟩⟩ := c
  · exact absurd e (by decide)
  · refine own_Ct_mono (rm6_3 l Z a0 hw r1 x b k e0 h0 n0 O0 M E S D z o V Eb q.1 zb) ?_
    rintro v h L ⟨rfl, N, K, V', o', M', S', D'⟩
    exact ⟨rfl, N, O0.keep K (allS z (allS zb all0)), b, ⟨z, E.keep K, M', S', D', Nat.lt_of_lt_of_le t K.1, Or.inr ⟨zb, Eb.keep K, k, o, Or.inr (Or.inl ⟨rfl, e0, x, q0, q, V'⟩)⟩⟩, own_LS_keep LS K (ninS nr.symm (ninS (ne_exa LS.2.1 Eb (by decide)) nin0)) (fun _ Eb' => ninS (ne_exa Eb' E (by decide)) (ninS (nb zb).symm nin0)), nr, nb⟩
  · exact absurd e (by decide)
  · exact absurd e (by decide)
def Q_rm7_4 (Z : State) (r1 : Addr) (w_x2 : Addr) (r2 : Addr) (w_x0 : Addr) (w_x1 : Addr) (k_r2 : ClassId) (n0 : Nat) (h0 : Heap) (v : Option Value) (h : Heap) (L : List Loc) : Prop := v = none ∧ Fr n0 L ∧ Keep h0 h [r2, r1] ∧ Arv Z h r2 k_r2 (.object sN1) (10 : Int32) [(.ref w_x0), (.ref w_x1), (.ref w_x2), .null, .null, .null, .null, .null, .null, .null] .null ∧ Ovr Z k_r2 sN1 ∧ Fld Z h r1 sN13 "modCount" "I" (.int (3 : Int32)) ∧ Fld Z h r1 sN0 "size" "I" (.int (3 : Int32)) ∧ Fld Z h r1 sN0 "elementData" sN4 (.ref r2)
theorem rm7_4 (l : Launch) (Z : State) (a0 : Array Value) (hw : own_HW a0 Z) (r1 : Addr) (w_x2 : Addr) (r2 : Addr) (w_x0 : Addr) (w_x1 : Addr) (k_r2 : ClassId) (h0 : Heap) (n0 : Nat) (O0 : Old Z n0 h0) (P1 : Ovr Z k_r2 sN1) (P2 : Arv Z h0 r2 k_r2 (.object sN1) (10 : Int32) [(.ref w_x0), (.ref w_x1), .null, .null, .null, .null, .null, .null, .null, .null] .null) (P3 : Exa Z Z.heap w_x2 sN9) (P4 : n0 ≤ r2) (P5 : Fld Z h0 r1 sN13 "modCount" "I" (.int (3 : Int32))) (P6 : Exa Z h0 r1 sN0) (P7 : Exa Z h0 r2 sN4) (P8 : Fld Z h0 r1 sN0 "size" "I" (.int (2 : Int32))) (P9 : Fld Z h0 r1 sN0 "elementData" sN4 (.ref r2)) (P10 : n0 ≤ r1) :
    own_Ct l Z yN3 jdk_38_method_24_code 4 none ({ frames := 0, cells := 0, slots := 0, locals := 0 } : Room) #[(.ref r1), (.ref w_x2), (.ref r2), (.int (2 : Int32))] h0 (Q_rm7_4 Z r1 w_x2 r2 w_x0 w_x1 k_r2 n0 h0) := by
  refine own_enter (own := sN0) rfl (plainFor_of_name pn_3) ?_
  intro p e s m below meth c s₁ X0 hx hby hml hown hnm hret hZ e0
  have N0 := Fr.nil n0
  obtain ⟨cl1, Ar1, -, Sr1, Nr1, -, -⟩ := id P2
  obtain ⟨cl2, Ar2, qr2, Sr2, Nr2, Hr2, Gr2⟩ := id P2
  have hin2 : ¬ ((2 : Int32) < 0 ∨ cl2.slots.size ≤ ((2 : Int32) : Int32).toNatClampNeg) := inb_of Sr2 ⟨by decide, by decide⟩
  obtain ⟨T3, h3, X3, e3, W3, st3⟩ := stR X0 hx hZ e0 Ar2 (j := (2 : Int32)) hin2 rfl (Sto.ofV Ar2 qr2 P1 (Ins.of_exa (P3.ext O0.2) (w63 hw))) (g := (mkF m 14 #[.val (.ref r1), .val (.ref w_x2), .val (.ref r2), .val (.int (2 : Int32))] [(.ref w_x2), (.int (2 : Int32)), (.ref r2)])) rfl rfl (hb hby d7_14)
  have V3 : Arv Z h3 r2 k_r2 (.object sN1) (10 : Int32) [(.ref w_x0), (.ref w_x1), (.ref w_x2), .null, .null, .null, .null, .null, .null, .null] .null := Arv.set Ar2 qr2 Sr2 Nr2 Hr2 Gr2 rfl W3 2 rfl (Nat.le_of_ble_eq_true rfl)
  have KK3 : Keep h0 h3 [r2, r1] := (Keep.refl h0 [r2, r1]).wr W3 (Or.inl (List.mem_of_getElem? (i := 0) rfl))
  have O3 := O0.wr W3 P4
  have N3 := Fr.snoc X3 N0 P4
  have nz4 : r1 ≠ r2 := (ne_exa P6 P7 (by decide))
  obtain ⟨T5, h5, X5, e5, W5, st5⟩ := putF X3 hx hZ hown (host := "") (Or.inl (w40 hw)) Via.refl e3 (P8.other W3 (Or.inl nz4)) (P6.wr W3) (Or.inl (w41 hw)) (w1 hw) (ty := .int) (by decide) rfl rfl (g := (mkF m 19 #[.val (.ref r1), .val (.ref w_x2), .val (.ref r2), .val (.int (2 : Int32))] [(.int (3 : Int32)), (.ref r1)])) rfl rfl (hb hby d7_19)
  have Fw5 := (P8.other W3 (Or.inl nz4)).same W5
  have KK5 : Keep h0 h5 [r2, r1] := KK3.wr W5 (Or.inl (List.mem_of_getElem? (i := 1) rfl))
  have O5 := O3.wr W5 P10
  have N5 := Fr.snoc X5 N3 P10
  have fc6 := ((P5.other W3 (Or.inl nz4)).other W5 (Or.inr (slot_ne (Or.inl (w22 hw)) (Or.inl (w41 hw)) (by decide) (t := .int) (t' := .int) (by decide) (by decide))))
  have fc7 := ((P9.other W3 (Or.inl nz4)).other W5 (Or.inr (slot_ne (Or.inl (w25 hw)) (Or.inl (w41 hw)) (by decide) (t := (.array (.object sN1))) (t' := .int) (by decide) (by decide))))
  refine ⟨none, _, _, _, _, X5, (fun _ => rfl), ?_, by decide, by decide, fun fs hr => castTop (ef_7_RRRI m r1 w_x2 r2 (2 : Int32)) ?_⟩
  · show Q_rm7_4 Z r1 w_x2 r2 w_x0 w_x1 k_r2 n0 h0 _ T5.heap _
    rw [e5]
    exact ⟨rfl, N5, KK5, (V3.other W5 nz4.symm), P1, fc6, Fw5, fc7⟩
  · show Steps p.tables e below (s₁.setTop (mkF m 0 #[.val (.ref r1), .val (.ref w_x2), .val (.ref r2), .val (.int (2 : Int32))] [])) _
    refine XS.iloadN X0.here hx rfl (hb hby d7_0) rfl ?_
    refine XS.aloadN X0.here hx rfl (hb hby d7_1) rfl rfl ?_
    refine X0.arraylength hx (by rw [e0]; exact Ar1.1) (State.isArrayOf_alike hZ.alike Ar1.2.1) (g := (mkF m 2 #[.val (.ref r1), .val (.ref w_x2), .val (.ref r2), .val (.int (2 : Int32))] [(.ref r2), (.int (2 : Int32))])) rfl rfl (hb hby d7_2) _ ?_
    rw [len_of Sr1 Nr1]
    refine XS.icmpYes X0.here hx rfl (pc0 := 3) (pc' := 11) rfl (hb hby d7_3) rfl (by decide) (by decide) (by decide) ?_
    refine XS.aloadN X0.here hx rfl (hb hby d7_11) rfl rfl ?_
    refine XS.iloadN X0.here hx rfl (hb hby d7_12) rfl ?_
    refine XS.aloadN X0.here hx rfl (hb hby d7_13) rfl rfl ?_
    refine st3 _ ?_
    show Steps p.tables e below (T3.setTop (mkF m 15 #[.val (.ref r1), .val (.ref w_x2), .val (.ref r2), .val (.int (2 : Int32))] [])) _
    refine XS.aloadN X3.here hx rfl (hb hby d7_15) rfl rfl ?_
    refine XS.iloadN X3.here hx rfl (hb hby d7_16) rfl ?_
    refine XS.iconst X3.here hx rfl (hb hby d7_17) ?_
    refine XS.iadd X3.here hx rfl (hb hby d7_18) rfl ?_
    show Steps p.tables e below (T3.setTop (mkF m 19 #[.val (.ref r1), .val (.ref w_x2), .val (.ref r2), .val (.int (2 : Int32))] [(.int ((2 : Int32) + (1 : Int32))), (.ref r1)])) _
    rw [fo_2]
    refine st5 _ ?_
    exact X5.returnOut hx hret (hb hby d7_22) hr
def Q_rm6_4 (Z : State) (r1 : Addr) (w_x2 : Addr) (r3 : Addr) (k_r3 : ClassId) (w_x0 : Addr) (w_x1 : Addr) (n0 : Nat) (h0 : Heap) (v : Option Value) (h : Heap) (L : List Loc) : Prop := v = (some (.int (1 : Int32))) ∧ Fr n0 L ∧ Keep h0 h [r1, r3] ∧ Arv Z h r3 k_r3 (.object sN1) (10 : Int32) [(.ref w_x0), (.ref w_x1), (.ref w_x2), .null, .null, .null, .null, .null, .null, .null] .null ∧ Ovr Z k_r3 sN1 ∧ Fld Z h r1 sN13 "modCount" "I" (.int (3 : Int32)) ∧ Fld Z h r1 sN0 "size" "I" (.int (3 : Int32)) ∧ Fld Z h r1 sN0 "elementData" sN4 (.ref r3)
theorem rm6_4 (l : Launch) (Z : State) (a0 : Array Value) (hw : own_HW a0 Z) (r1 : Addr) (w_x2 : Addr) (r3 : Addr) (k_r3 : ClassId) (w_x0 : Addr) (w_x1 : Addr) (h0 : Heap) (n0 : Nat) (O0 : Old Z n0 h0) (P1 : Fld Z h0 r1 sN13 "modCount" "I" (.int (2 : Int32))) (P2 : Exa Z h0 r1 sN0) (P3 : Fld Z h0 r1 sN0 "size" "I" (.int (2 : Int32))) (P4 : Fld Z h0 r1 sN0 "elementData" sN4 (.ref r3)) (P5 : n0 ≤ r1) (P6 : Ovr Z k_r3 sN1) (P7 : Arv Z h0 r3 k_r3 (.object sN1) (10 : Int32) [(.ref w_x0), (.ref w_x1), .null, .null, .null, .null, .null, .null, .null, .null] .null) (P8 : Exa Z h0 r3 sN4) (P9 : Exa Z Z.heap w_x2 sN9) (P10 : n0 ≤ r3) :
    own_Ct l Z yN1 jdk_38_method_25_code 2 (some .boolean) ({ frames := 4, cells := 1, slots := 10, locals := 56 } : Room) #[(.ref r1), (.ref w_x2)] h0 (Q_rm6_4 Z r1 w_x2 r3 k_r3 w_x0 w_x1 n0 h0) := by
  refine own_enter (own := sN0) rfl (plainFor_of_name pn_3) ?_
  intro p e s m below meth c s₁ X0 hx hby hml hown hnm hret hZ e0
  have N0 := Fr.nil n0
  obtain ⟨T1, X1, e1, st1⟩ := getF X0 hx hZ hown (host := "") (Or.inl (w38 hw)) (Via.of (w39 hw)) e0 P1 (g := (mkF m 2 #[.val (.ref r1), .val (.ref w_x2)] [(.ref r1), (.ref r1)])) rfl rfl (hb hby d6_2)
  obtain ⟨T2, h2, X2, e2, W2, st2⟩ := putF X1 hx hZ hown (host := "") (Or.inl (w38 hw)) (Via.of (w39 hw)) e1 P1 P2 (Or.inl (w22 hw)) (w1 hw) (ty := .int) (by decide) rfl rfl (g := (mkF m 7 #[.val (.ref r1), .val (.ref w_x2)] [(.int (3 : Int32)), (.ref r1)])) rfl rfl (hb hby d6_7)
  have Fw2 := P1.same W2
  have KK2 : Keep h0 h2 [r1, r3] := (Keep.refl h0 [r1, r3]).wr W2 (Or.inl (List.mem_of_getElem? (i := 0) rfl))
  have O2 := O0.wr W2 P5
  have N2 := Fr.snoc X2 N0 P5
  have fc3 := (P4.other W2 (Or.inr (slot_ne (Or.inl (w25 hw)) (Or.inl (w22 hw)) (by decide) (t := (.array (.object sN1))) (t' := .int) (by decide) (by decide))))
  obtain ⟨T4, X4, e4, st4⟩ := getF X2 hx hZ hown (host := "") (Or.inl (w24 hw)) Via.refl e2 fc3 (g := (mkF m 13 #[.val (.ref r1), .val (.ref w_x2)] [(.ref r1), (.ref w_x2), (.ref r1)])) rfl rfl (hb hby d6_13)
  have fc5 := (P3.other W2 (Or.inr (slot_ne (Or.inl (w41 hw)) (Or.inl (w22 hw)) (by decide) (t := .int) (t' := .int) (by decide) (by decide))))
  obtain ⟨T6, X6, e6, st6⟩ := getF X4 hx hZ hown (host := "") (Or.inl (w40 hw)) Via.refl e4 fc5 (g := (mkF m 17 #[.val (.ref r1), .val (.ref w_x2)] [(.ref r1), (.ref r3), (.ref w_x2), (.ref r1)])) rfl rfl (hb hby d6_17)
  have nz7 : r3 ≠ r1 := (ne_exa P8 P2 (by decide))
  obtain ⟨_, T8, L8, X8, hQ8, st8⟩ := own_cP X6 hx hZ hown (w42 hw) (w43 hw) (w45 hw) (w44 hw) (w2 hw) (w46 hw) (P2.wr W2) (rm7_4 l Z a0 hw r1 w_x2 r3 w_x0 w_x1 k_r3 h2 n0 O2 P6 (P7.other W2 nz7) P9 P10 Fw2 (P2.wr W2) (P8.wr W2) fc5 fc3 P5) e6 (hb hby d6_20) hml pd_76 [(.ref w_x2), (.ref r3), (.int (2 : Int32))] [] (g := (mkF m 20 #[.val (.ref r1), .val (.ref w_x2)] [(.int (2 : Int32)), (.ref r3), (.ref w_x2), (.ref r1)]))
  obtain ⟨rfl, N8q, K8, f8_0, ov8_0, f8_1, f8_2, f8_3⟩ := hQ8
  have KK8 : Keep h0 T8.heap [r1, r3] := KK2.trans K8 (allS (Or.inl (List.mem_of_getElem? (i := 1) rfl)) (allS (Or.inl (List.mem_of_getElem? (i := 0) rfl)) all0))
  have O8 := O2.keep K8 (allS P10 (allS P5 all0))
  have N8 := Fr.app N2 N8q
  refine ⟨(some (.int (1 : Int32))), _, _, _, _, X8, (fun h => nomatch h), ?_, by decide, by decide, fun fs hr => castTop (ef_6_RR m r1 w_x2) ?_⟩
  · show Q_rm6_4 Z r1 w_x2 r3 k_r3 w_x0 w_x1 n0 h0 _ T8.heap _
    exact ⟨rfl, N8, KK8, f8_0, ov8_0, f8_1, f8_2, f8_3⟩
  · show Steps p.tables e below (s₁.setTop (mkF m 0 #[.val (.ref r1), .val (.ref w_x2)] [])) _
    refine XS.aloadN X0.here hx rfl (hb hby d6_0) rfl rfl ?_
    refine XS.dup X0.here hx rfl (hb hby d6_1) rfl rfl ?_
    refine st1 _ ?_
    refine XS.iconst X1.here hx rfl (hb hby d6_5) ?_
    refine XS.iadd X1.here hx rfl (hb hby d6_6) rfl ?_
    show Steps p.tables e below (T1.setTop (mkF m 7 #[.val (.ref r1), .val (.ref w_x2)] [(.int ((2 : Int32) + (1 : Int32))), (.ref r1)])) _
    rw [fo_2]
    refine st2 _ ?_
    refine XS.aloadN X2.here hx rfl (hb hby d6_10) rfl rfl ?_
    refine XS.aloadN X2.here hx rfl (hb hby d6_11) rfl rfl ?_
    refine XS.aloadN X2.here hx rfl (hb hby d6_12) rfl rfl ?_
    refine st4 _ ?_
    refine XS.aloadN X4.here hx rfl (hb hby d6_16) rfl rfl ?_
    refine st6 _ ?_
    show Steps p.tables e below (T6.setTop (mkF m 20 #[.val (.ref r1), .val (.ref w_x2)] [(.int (2 : Int32)), (.ref r3), (.ref w_x2), (.ref r1)])) _
    refine st8 _ ?_
    refine XS.iconst X8.here hx rfl (hb hby d6_23) ?_
    exact retN X8 hx (t := .boolean) hret (by simp) (hb hby d6_24) hr
theorem own_A2 (l : Launch) (Z : State) (a0 : Array Value) (hw : own_HW a0 Z) (r1 x b r' b' : Addr) (n : Int32) (w_BOOLEAN w_DEF : Addr) (h0 : Heap) (n0 : Nat) (O0 : Old Z n0 h0)  (q : own_El Z w_BOOLEAN x) (LL : own_LL Z n0 w_DEF w_BOOLEAN h0 r1 b (2 : Int32) r' b' n) :
    own_Ct l Z yN1 jdk_38_method_25_code 2 (some .boolean) ({ frames := 4, cells := 1, slots := 10, locals := 56 } : Room) #[(.ref r1), (.ref x)] h0 (own_QA Z n0 w_DEF w_BOOLEAN r1 (3 : Int32) r' b' n) := by
  obtain ⟨⟨z, E, M, S, D, t, c⟩, LS, nr, nb⟩ := LL
  obtain ⟨e, -⟩ | ⟨zb, Eb, k, o, ⟨e, -⟩ | ⟨-, e0, e1, q0, q1, V⟩ | ⟨e, -⟩⟩ := c
  · exact absurd e (by decide)
  · exact absurd e (by decide)
  · refine own_Ct_mono (rm6_4 l Z a0 hw r1 x b k e0 e1 h0 n0 O0 M E S D z o V Eb q.1 zb) ?_
    rintro v h L ⟨rfl, N, K, V', o', M', S', D'⟩
    exact ⟨rfl, N, O0.keep K (allS z (allS zb all0)), b, ⟨z, E.keep K, M', S', D', Nat.lt_of_lt_of_le t K.1, Or.inr ⟨zb, Eb.keep K, k, o, Or.inr (Or.inr ⟨rfl, e0, e1, x, q0, q1, q, V'⟩)⟩⟩, own_LS_keep LS K (ninS nr.symm (ninS (ne_exa LS.2.1 Eb (by decide)) nin0)) (fun _ Eb' => ninS (ne_exa Eb' E (by decide)) (ninS (nb zb).symm nin0)), nr, nb⟩
  · exact absurd e (by decide)
theorem rm5_0 (l : Launch) (Z : State) (a0 : Array Value) (hw : own_HW a0 Z) (p1 : Int32) (p2 : Int32) (w_FALSE : Addr) (h0 : Heap) (n0 : Nat) (O0 : Old Z n0 h0) (P1 : (((p1.toUInt32 >>> (p2 &&& 31).toUInt32).toInt32) &&& (1 : Int32)) = (0 : Int32)) (P2 : Sta Z Z.heap sN9 "FALSE" sN59 (.ref w_FALSE)) :
    own_Ct l Z yN30 method_3_code 2 (some (.object sN9)) ({ frames := 0, cells := 0, slots := 0, locals := 0 } : Room) #[(.int p1), (.int p2)] h0 (own_QP (some (.ref w_FALSE)) n0 h0) := by
  refine own_enter (own := sN17) rfl (plainFor_of_name pn_89) ?_
  intro p e s m below meth c s₁ X0 hx hby hml hown hnm hret hZ e0
  have N0 := Fr.nil n0
  obtain ⟨T1, X1, e1, st1⟩ := getS2 X0 hx hZ hown (host := "") (Or.inl (w30 hw)) Via.refl e0 (P2.ext O0.2) (g := (mkF m 14 #[.val (.int p1), .val (.int p2)] [])) rfl (hb hby d5_14)
  refine ⟨(some (.ref w_FALSE)), _, _, _, _, X1, (fun h => nomatch h), ?_, by decide, by decide, fun fs hr => castTop (ef_5_II m p1 p2) ?_⟩
  · show own_QP (some (.ref w_FALSE)) n0 h0 _ T1.heap _
    rw [e1]
    exact ⟨rfl, N0, rfl⟩
  · show Steps p.tables e below (s₁.setTop (mkF m 0 #[.val (.int p1), .val (.int p2)] [])) _
    refine XS.iloadN X0.here hx rfl (hb hby d5_0) rfl ?_
    refine XS.iloadN X0.here hx rfl (hb hby d5_1) rfl ?_
    refine XS.iushr X0.here hx rfl (hb hby d5_2) rfl ?_
    refine XS.iconst X0.here hx rfl (hb hby d5_3) ?_
    refine XS.iand X0.here hx rfl (hb hby d5_4) rfl ?_
    refine XS.ifYes X0.here hx rfl (pc0 := 5) (pc' := 14) rfl (hb hby d5_5) rfl ((if0 _ _).trans (teq P1).1) (by decide) (by decide) ?_
    refine st1 _ ?_
    exact retA X1 hx hret rfl rfl rfl (hb hby d5_17) hr
theorem rm5_1 (l : Launch) (Z : State) (a0 : Array Value) (hw : own_HW a0 Z) (p1 : Int32) (p2 : Int32) (w_TRUE : Addr) (h0 : Heap) (n0 : Nat) (O0 : Old Z n0 h0) (P1 : ¬ ((((p1.toUInt32 >>> (p2 &&& 31).toUInt32).toInt32) &&& (1 : Int32)) = (0 : Int32))) (P2 : Sta Z Z.heap sN9 "TRUE" sN59 (.ref w_TRUE)) :
    own_Ct l Z yN30 method_3_code 2 (some (.object sN9)) ({ frames := 0, cells := 0, slots := 0, locals := 0 } : Room) #[(.int p1), (.int p2)] h0 (own_QP (some (.ref w_TRUE)) n0 h0) := by
  refine own_enter (own := sN17) rfl (plainFor_of_name pn_89) ?_
  intro p e s m below meth c s₁ X0 hx hby hml hown hnm hret hZ e0
  have N0 := Fr.nil n0
  obtain ⟨T1, X1, e1, st1⟩ := getS2 X0 hx hZ hown (host := "") (Or.inl (w334 hw)) Via.refl e0 (P2.ext O0.2) (g := (mkF m 8 #[.val (.int p1), .val (.int p2)] [])) rfl (hb hby d5_8)
  refine ⟨(some (.ref w_TRUE)), _, _, _, _, X1, (fun h => nomatch h), ?_, by decide, by decide, fun fs hr => castTop (ef_5_II m p1 p2) ?_⟩
  · show own_QP (some (.ref w_TRUE)) n0 h0 _ T1.heap _
    rw [e1]
    exact ⟨rfl, N0, rfl⟩
  · show Steps p.tables e below (s₁.setTop (mkF m 0 #[.val (.int p1), .val (.int p2)] [])) _
    refine XS.iloadN X0.here hx rfl (hb hby d5_0) rfl ?_
    refine XS.iloadN X0.here hx rfl (hb hby d5_1) rfl ?_
    refine XS.iushr X0.here hx rfl (hb hby d5_2) rfl ?_
    refine XS.iconst X0.here hx rfl (hb hby d5_3) ?_
    refine XS.iand X0.here hx rfl (hb hby d5_4) rfl ?_
    refine XS.ifNo X0.here hx rfl (hb hby d5_5) rfl ((if0 _ _).trans (feq P1).1) ?_
    refine st1 _ ?_
    refine XS.goto X1.here hx rfl (pc0 := 11) (pc' := 17) rfl (hb hby d5_11) (by decide) (by decide) ?_
    show Steps p.tables e below (T1.setTop (mkF m 17 #[.val (.int p1), .val (.int p2)] [(.ref w_TRUE)])) _
    exact retA X1 hx hret rfl rfl rfl (hb hby d5_17) hr
def own_Pick (l : Launch) (Z : State) (n0 : Nat) (wB : Addr) (p1 p2 : Int32) : Prop := ∃ w, own_El Z wB w ∧ ∀ h, Old Z n0 h → own_Ct l Z yN30 method_3_code 2 (some (.object sN9)) ({ frames := 0, cells := 0, slots := 0, locals := 0 } : Room) #[(.int p1), (.int p2)] h (own_QP (some (.ref w)) n0 h)
theorem own_pick (l : Launch) (Z : State) (a0 : Array Value) (hw : own_HW a0 Z) (n0 : Nat) (w_BOOLEAN w_TRUE w_FALSE : Addr) (G0 : Sta Z Z.heap sN9 "FALSE" sN59 (.ref w_FALSE)) (G1 : Sta Z Z.heap sN9 "TRUE" sN59 (.ref w_TRUE)) (qT : own_El Z w_BOOLEAN w_TRUE) (qF : own_El Z w_BOOLEAN w_FALSE) (p1 p2 : Int32) : own_Pick l Z n0 w_BOOLEAN p1 p2 := by
  by_cases c : (((p1.toUInt32 >>> (p2 &&& 31).toUInt32).toInt32) &&& (1 : Int32)) = (0 : Int32)
  · exact ⟨w_FALSE, qF, fun h O => rm5_0 l Z a0 hw p1 p2 w_FALSE h n0 O c G0⟩
  · exact ⟨w_TRUE, qT, fun h O => rm5_1 l Z a0 hw p1 p2 w_TRUE h n0 O c G1⟩
def Q_rm1_0 (Z : State) (r1 : Addr) (w_DEF : Addr) (n0 : Nat) (h0 : Heap) (v : Option Value) (h : Heap) (L : List Loc) : Prop := v = none ∧ Fr n0 L ∧ Keep h0 h [r1] ∧ Fld Z h r1 sN13 "modCount" "I" (.int (0 : Int32)) ∧ Fld Z h r1 sN0 "elementData" sN4 (.ref w_DEF) ∧ Fld Z h r1 sN0 "size" "I" (.int (0 : Int32))
theorem rm1_0 (l : Launch) (Z : State) (a0 : Array Value) (hw : own_HW a0 Z) (r1 : Addr) (w_DEF : Addr) (h0 : Heap) (n0 : Nat) (O0 : Old Z n0 h0) (P1 : Exa Z h0 r1 sN0) (P2 : Fld Z h0 r1 sN13 "modCount" "I" (.int (0 : Int32))) (P3 : Fld Z h0 r1 sN0 "elementData" sN4 .null) (P4 : Fld Z h0 r1 sN0 "size" "I" (.int (0 : Int32))) (P5 : n0 ≤ r1) (P6 : Sta Z Z.heap sN0 sN31 sN4 (.ref w_DEF)) :
    own_Ct l Z yN44 jdk_38_method_2_code 1 none ({ frames := 3, cells := 0, slots := 0, locals := 36 } : Room) #[(.ref r1)] h0 (Q_rm1_0 Z r1 w_DEF n0 h0) := by
  refine own_enter (own := sN0) rfl (plainFor_of_name pn_3) ?_
  intro p e s m below meth c s₁ X0 hx hby hml hown hnm hret hZ e0
  have N0 := Fr.nil n0
  obtain ⟨_, T1, L1, X1, hQ1, st1⟩ := own_cI X0 hx hZ hown rfl (w6 hw) (w7 hw) (w10 hw) (w11 hw) (rm2_0 l Z a0 hw r1 h0 n0 O0 P1 P2 P3 P4 P5) e0 (hb hby d1_1) hml pd_36 [] [] (g := (mkF m 1 #[.val (.ref r1)] [(.ref r1)]))
  obtain ⟨rfl, N1q, K1, f1_0, f1_1, f1_2⟩ := hQ1
  have KK1 : Keep h0 T1.heap [r1] := (Keep.refl h0 [r1]).trans K1 (allS (Or.inl (List.mem_of_getElem? (i := 0) rfl)) all0)
  have O1 := O0.keep K1 (allS P5 all0)
  have N1 := Fr.app N0 N1q
  obtain ⟨T2, X2, e2, st2⟩ := getS2 X1 hx hZ hown (host := "") (Or.inl (w23 hw)) Via.refl rfl (P6.ext O1.2) (g := (mkF m 5 #[.val (.ref r1)] [(.ref r1)])) rfl (hb hby d1_5)
  obtain ⟨T3, h3, X3, e3, W3, st3⟩ := putF X2 hx hZ hown (host := "") (Or.inl (w24 hw)) Via.refl e2 f1_1 (P1.keep K1) (Or.inl (w25 hw)) (w1 hw) (ty := (.array (.object sN1))) (by decide) rfl rfl (g := (mkF m 8 #[.val (.ref r1)] [(.ref w_DEF), (.ref r1)])) rfl rfl (hb hby d1_8)
  have Fw3 := f1_1.same W3
  have KK3 : Keep h0 h3 [r1] := KK1.wr W3 (Or.inl (List.mem_of_getElem? (i := 0) rfl))
  have O3 := O1.wr W3 P5
  have N3 := Fr.snoc X3 N1 P5
  have fc4 := (f1_0.other W3 (Or.inr (slot_ne (Or.inl (w22 hw)) (Or.inl (w25 hw)) (by decide) (t := .int) (t' := (.array (.object sN1))) (by decide) (by decide))))
  have fc5 := (f1_2.other W3 (Or.inr (slot_ne (Or.inl (w41 hw)) (Or.inl (w25 hw)) (by decide) (t := .int) (t' := (.array (.object sN1))) (by decide) (by decide))))
  refine ⟨none, _, _, _, _, X3, (fun _ => rfl), ?_, by decide, by decide, fun fs hr => castTop (ef_1_R m r1) ?_⟩
  · show Q_rm1_0 Z r1 w_DEF n0 h0 _ T3.heap _
    rw [e3]
    exact ⟨rfl, N3, KK3, fc4, Fw3, fc5⟩
  · show Steps p.tables e below (s₁.setTop (mkF m 0 #[.val (.ref r1)] [])) _
    refine XS.aloadN X0.here hx rfl (hb hby d1_0) rfl rfl ?_
    refine st1 _ ?_
    refine XS.aloadN X1.here hx rfl (hb hby d1_4) rfl rfl ?_
    refine st2 _ ?_
    refine st3 _ ?_
    exact X3.returnOut hx hret (hb hby d1_11) hr
theorem own_s0 (l : Launch) (Z : State) (a0 : Array Value) (hw : own_HW a0 Z) {p : Program} {e : Env} {s : State} {m : MethodId} {args : Array Value} {below : List Frame} {meth : Method} {c : Code} (hx : p.tables.exec = Jvm.exec) (hby : c.code = code) (hml : c.maxLocals = 14) (hown : s.vm.findClass sN17 = some m.cls) (hZ : Z.Warmed39 s.vm) (n0 : Nat) (p1 : Int32) (p2 : Int32) (p3 : Int32) (w_DEF : Addr) (w_BOOLEAN : Addr)  (h0 : Heap) {T0 : State} {L0 : List Loc} (X0 : Stand p l e room_1 s m args below meth c T0 L0 0 0) (e0 : T0.heap = h0) (N0 : Fr n0 L0) (O0 : Old Z n0 h0) (P1 : Sta Z Z.heap sN0 sN31 sN4 (.ref w_DEF)) (P2 : Exa Z Z.heap w_DEF sN4) :
    ∃ (r5 r6 : Addr) (h1 : Heap) (T1 : State) (L1 : List Loc), Stand p l e room_1 s m args below meth c T1 L1 2 6 ∧ T1.heap = h1 ∧ Fr n0 L1 ∧ Old Z n0 h1 ∧ own_LL Z n0 w_DEF w_BOOLEAN h1 r5 w_DEF (0 : Int32) r6 w_DEF (0 : Int32) ∧ ∀ t, Steps p.tables e below (T1.setTop (mkF m 27 #[.val (.int p1), .val (.int p2), .val (.int p3), .val (.int (p1 &&& (3 : Int32))), .val (.int (p2 &&& (3 : Int32))), .val (.ref r5), .val (.ref r6), .unset, .unset, .unset, .unset, .unset, .unset, .unset] [])) t → Steps p.tables e below (T0.setTop (mkF m 0 #[.val (.int p1), .val (.int p2), .val (.int p3), .unset, .unset, .unset, .unset, .unset, .unset, .unset, .unset, .unset, .unset, .unset] [])) t := by
  obtain ⟨T1, h1, X1, e1, E1, A1, D1, -, st1⟩ := newO X0 hx hZ hown (w0 hw) (w1 hw) (w2 hw) e0 (g := (mkF m 9 #[.val (.int p1), .val (.int p2), .val (.int p3), .val (.int (p1 &&& (3 : Int32))), .val (.int (p2 &&& (3 : Int32))), .unset, .unset, .unset, .unset, .unset, .unset, .unset, .unset, .unset] [])) rfl (hb hby at_9) (by decide) (by decide)
  obtain ⟨b1, gq1⟩ : ∃ z, z = h0.size := ⟨_, rfl⟩
  rw [← gq1] at A1 D1 st1
  have g_b1 : n0 ≤ b1 := Nat.le_trans ((O0.1 ▸ O0.2.1) : n0 ≤ h0.size) (Nat.le_of_eq gq1.symm)
  have sz_b1 : h0.size ≤ b1 := Nat.le_trans (Keep.refl h0 []).1 (Nat.le_of_eq gq1.symm)
  have KK1 : Keep h0 h1 [] := (Keep.refl h0 []).ext E1
  have O1 := O0.ext E1
  have F_modCount_b1 : Fld Z h1 b1 sN13 "modCount" "I" (.int (0 : Int32)) := D1 (Or.inl (w22 hw)) (ty := .int) (by decide)
  have F_elementData_b1 : Fld Z h1 b1 sN0 "elementData" sN4 .null := D1 (Or.inl (w25 hw)) (ty := (.array (.object sN1))) (by decide)
  have F_size_b1 : Fld Z h1 b1 sN0 "size" "I" (.int (0 : Int32)) := D1 (Or.inl (w41 hw)) (ty := .int) (by decide)
  obtain ⟨_, T2, L2, X2, hQ2, st2⟩ := own_cI X1 hx hZ hown rfl (w3 hw) (w4 hw) (w2 hw) (w5 hw) (rm1_0 l Z a0 hw b1 w_DEF h1 n0 O1 A1 F_modCount_b1 F_elementData_b1 F_size_b1 g_b1 P1) e1 (hb hby at_13) hml pd_36 [] [(.ref b1)] (g := (mkF m 13 #[.val (.int p1), .val (.int p2), .val (.int p3), .val (.int (p1 &&& (3 : Int32))), .val (.int (p2 &&& (3 : Int32))), .unset, .unset, .unset, .unset, .unset, .unset, .unset, .unset, .unset] [(.ref b1), (.ref b1)]))
  obtain ⟨rfl, N2q, K2, f2_0, f2_1, f2_2⟩ := hQ2
  have KK2 : Keep h0 T2.heap [] := KK1.trans K2 (allS (Or.inr sz_b1) all0)
  have O2 := O1.keep K2 (allS g_b1 all0)
  have N2 := Fr.app N0 N2q
  obtain ⟨T3, h3, X3, e3, E3, A3, D3, -, st3⟩ := newO X2 hx hZ hown (w0 hw) (w1 hw) (w2 hw) rfl (g := (mkF m 18 #[.val (.int p1), .val (.int p2), .val (.int p3), .val (.int (p1 &&& (3 : Int32))), .val (.int (p2 &&& (3 : Int32))), .val (.ref b1), .unset, .unset, .unset, .unset, .unset, .unset, .unset, .unset] [])) rfl (hb hby at_18) (by decide) (by decide)
  obtain ⟨b3, gq3⟩ : ∃ z, z = T2.heap.size := ⟨_, rfl⟩
  rw [← gq3] at A3 D3 st3
  have g_b3 : n0 ≤ b3 := Nat.le_trans ((O2.1 ▸ O2.2.1) : n0 ≤ T2.heap.size) (Nat.le_of_eq gq3.symm)
  have sz_b3 : h0.size ≤ b3 := Nat.le_trans KK2.1 (Nat.le_of_eq gq3.symm)
  have KK3 : Keep h0 h3 [] := KK2.ext E3
  have O3 := O2.ext E3
  have F_modCount_b3 : Fld Z h3 b3 sN13 "modCount" "I" (.int (0 : Int32)) := D3 (Or.inl (w22 hw)) (ty := .int) (by decide)
  have F_elementData_b3 : Fld Z h3 b3 sN0 "elementData" sN4 .null := D3 (Or.inl (w25 hw)) (ty := (.array (.object sN1))) (by decide)
  have F_size_b3 : Fld Z h3 b3 sN0 "size" "I" (.int (0 : Int32)) := D3 (Or.inl (w41 hw)) (ty := .int) (by decide)
  obtain ⟨_, T4, L4, X4, hQ4, st4⟩ := own_cI X3 hx hZ hown rfl (w3 hw) (w4 hw) (w2 hw) (w5 hw) (rm1_0 l Z a0 hw b3 w_DEF h3 n0 O3 A3 F_modCount_b3 F_elementData_b3 F_size_b3 g_b3 P1) e3 (hb hby at_22) hml pd_36 [] [(.ref b3)] (g := (mkF m 22 #[.val (.int p1), .val (.int p2), .val (.int p3), .val (.int (p1 &&& (3 : Int32))), .val (.int (p2 &&& (3 : Int32))), .val (.ref b1), .unset, .unset, .unset, .unset, .unset, .unset, .unset, .unset] [(.ref b3), (.ref b3)]))
  obtain ⟨rfl, N4q, K4, f4_0, f4_1, f4_2⟩ := hQ4
  have KK4 : Keep h0 T4.heap [] := KK3.trans K4 (allS (Or.inr sz_b3) all0)
  have O4 := O3.keep K4 (allS g_b3 all0)
  have N4 := Fr.app N2 N4q
  have nz5 : b1 ≠ b3 := (Nat.ne_of_lt (Nat.lt_of_lt_of_le (A1.keep K2).lt (Nat.le_of_eq gq3.symm)))
  refine ⟨b1, b3, _, _, _, X4.more (by decide) (by decide), rfl, N4, O4, ⟨⟨g_b1, (((A1.keep K2).ext E3).keep K4), ((f2_0.ext E3).keep K4 (ninS nz5 nin0)), ((f2_2.ext E3).keep K4 (ninS nz5 nin0)), ((f2_1.ext E3).keep K4 (ninS nz5 nin0)), (P2.ext O4.2).lt, Or.inl ⟨rfl, rfl⟩⟩, ⟨g_b3, (A3.keep K4), f4_0, f4_2, f4_1, (P2.ext O4.2).lt, Or.inl ⟨rfl, rfl⟩⟩, nz5, fun q => absurd (Nat.lt_of_lt_of_le (O0.1 ▸ P2.lt) q) (Nat.lt_irrefl _)⟩, fun t k => ?_⟩
  show Steps p.tables e below (T0.setTop (mkF m 0 #[.val (.int p1), .val (.int p2), .val (.int p3), .unset, .unset, .unset, .unset, .unset, .unset, .unset, .unset, .unset, .unset, .unset] [])) _
  refine XS.iloadN X0.here hx rfl (hb hby at_0) rfl ?_
  refine XS.iconst X0.here hx rfl (hb hby at_1) ?_
  refine XS.iand X0.here hx rfl (hb hby at_2) rfl ?_
  refine XS.istoreN X0.here hx rfl (hb hby at_3) rfl (l' := #[.val (.int p1), .val (.int p2), .val (.int p3), .val (.int (p1 &&& (3 : Int32))), .unset, .unset, .unset, .unset, .unset, .unset, .unset, .unset, .unset, .unset]) rfl ?_
  refine XS.iloadN X0.here hx rfl (hb hby at_4) rfl ?_
  refine XS.iconst X0.here hx rfl (hb hby at_5) ?_
  refine XS.iand X0.here hx rfl (hb hby at_6) rfl ?_
  refine XS.istore X0.here hx rfl (hb hby at_7) rfl (l' := #[.val (.int p1), .val (.int p2), .val (.int p3), .val (.int (p1 &&& (3 : Int32))), .val (.int (p2 &&& (3 : Int32))), .unset, .unset, .unset, .unset, .unset, .unset, .unset, .unset, .unset]) rfl ?_
  show Steps p.tables e below (T0.setTop (mkF m 9 #[.val (.int p1), .val (.int p2), .val (.int p3), .val (.int (p1 &&& (3 : Int32))), .val (.int (p2 &&& (3 : Int32))), .unset, .unset, .unset, .unset, .unset, .unset, .unset, .unset, .unset] [])) _
  refine st1 _ ?_
  refine XS.dup X1.here hx rfl (hb hby at_12) rfl rfl ?_
  refine st2 _ ?_
  refine XS.astore X2.here hx rfl (hb hby at_16) rfl rfl (l' := #[.val (.int p1), .val (.int p2), .val (.int p3), .val (.int (p1 &&& (3 : Int32))), .val (.int (p2 &&& (3 : Int32))), .val (.ref b1), .unset, .unset, .unset, .unset, .unset, .unset, .unset, .unset]) rfl ?_
  refine st3 _ ?_
  refine XS.dup X3.here hx rfl (hb hby at_21) rfl rfl ?_
  refine st4 _ ?_
  refine XS.astore X4.here hx rfl (hb hby at_25) rfl rfl (l' := #[.val (.int p1), .val (.int p2), .val (.int p3), .val (.int (p1 &&& (3 : Int32))), .val (.int (p2 &&& (3 : Int32))), .val (.ref b1), .val (.ref b3), .unset, .unset, .unset, .unset, .unset, .unset, .unset]) rfl ?_
  show Steps p.tables e below (T4.setTop (mkF m 27 #[.val (.int p1), .val (.int p2), .val (.int p3), .val (.int (p1 &&& (3 : Int32))), .val (.int (p2 &&& (3 : Int32))), .val (.ref b1), .val (.ref b3), .unset, .unset, .unset, .unset, .unset, .unset, .unset] [])) _
  exact k
def own_mn (a k : Int32) : Int32 := if k < a then k else a
def own_In (a : Int32) : Prop := a = 0 ∨ a = 1 ∨ a = 2 ∨ a = 3
theorem own_mn0 (a : Int32) (ha : own_In a) : (¬ ((0 : Int32) < a) → own_mn a (0 : Int32) = own_mn a (1 : Int32)) ∧ ((0 : Int32) < a → own_mn a (0 : Int32) = (0 : Int32) ∧ own_mn a (1 : Int32) = (1 : Int32)) := by
  rcases ha with rfl | rfl | rfl | rfl <;> decide
theorem own_mn1 (a : Int32) (ha : own_In a) : (¬ ((1 : Int32) < a) → own_mn a (1 : Int32) = own_mn a (2 : Int32)) ∧ ((1 : Int32) < a → own_mn a (1 : Int32) = (1 : Int32) ∧ own_mn a (2 : Int32) = (2 : Int32)) := by
  rcases ha with rfl | rfl | rfl | rfl <;> decide
theorem own_mn2 (a : Int32) (ha : own_In a) : (¬ ((2 : Int32) < a) → own_mn a (2 : Int32) = own_mn a (3 : Int32)) ∧ ((2 : Int32) < a → own_mn a (2 : Int32) = (2 : Int32) ∧ own_mn a (3 : Int32) = (3 : Int32)) := by
  rcases ha with rfl | rfl | rfl | rfl <;> decide
theorem own_d0 (l : Launch) (Z : State) (a0 : Array Value) (hw : own_HW a0 Z) {p : Program} {e : Env} {s : State} {m : MethodId} {args : Array Value} {below : List Frame} {meth : Method} {c : Code} (hx : p.tables.exec = Jvm.exec) (hby : c.code = code) (hml : c.maxLocals = 14) (hown : s.vm.findClass sN17 = some m.cls) (hZ : Z.Warmed39 s.vm) (n0 : Nat) (p1 : Int32) (p2 : Int32) (p3 : Int32) (p4 : Int32) (p5 : Int32) (r5 : Addr) (r6 : Addr) (w_BOOLEAN : Addr) (w_DEF : Addr) (w_kDEF : ClassId) (p6 : Int32) (b1 b2 : Addr) (ha : own_In p4) (PK : own_Pick l Z n0 w_BOOLEAN p3 (0 : Int32)) (h0 : Heap) {T0 : State} {L0 : List Loc} (X0 : Stand p l e room_1 s m args below meth c T0 L0 2 6) (e0 : T0.heap = h0) (N0 : Fr n0 L0) (O0 : Old Z n0 h0) (P1 : Arv Z Z.heap w_DEF w_kDEF (.object sN1) (0 : Int32) [] .null) (P2 : Sta Z Z.heap sN0 sN31 sN4 (.ref w_DEF)) (LL : own_LL Z n0 w_DEF w_BOOLEAN h0 r5 b1 (own_mn p4 (0 : Int32)) r6 b2 p6) :
    ∃ (b : Addr) (h1 : Heap) (T1 : State) (L1 : List Loc), Stand p l e room_1 s m args below meth c T1 L1 3 16 ∧ T1.heap = h1 ∧ Fr n0 L1 ∧ Old Z n0 h1 ∧ own_LL Z n0 w_DEF w_BOOLEAN h1 r5 b (own_mn p4 (1 : Int32)) r6 b2 p6 ∧ ∀ t, Steps p.tables e below (T1.setTop (mkF m 42 #[.val (.int p1), .val (.int p2), .val (.int p3), .val (.int p4), .val (.int p5), .val (.ref r5), .val (.ref r6), .unset, .unset, .unset, .unset, .unset, .unset, .unset] [])) t → Steps p.tables e below (T0.setTop (mkF m 27 #[.val (.int p1), .val (.int p2), .val (.int p3), .val (.int p4), .val (.int p5), .val (.ref r5), .val (.ref r6), .unset, .unset, .unset, .unset, .unset, .unset, .unset] [])) t := by
  by_cases hc : (0 : Int32) < p4
  · obtain ⟨w, q, PKw⟩ := PK
    obtain ⟨g1, g2⟩ := (own_mn0 p4 ha).2 hc
    rw [g1] at LL
    rw [g2]
    obtain ⟨_, T1, L1, X1, hQ1, st1⟩ := own_cS X0 hx hZ hown (w26 hw) (w27 hw) (w28 hw) (w29 hw) (PKw h0 O0) e0 (hb hby at_35) hml pd_92 [(.int p3), (.int (0 : Int32))] [(.ref r5)] (g := (mkF m 35 #[.val (.int p1), .val (.int p2), .val (.int p3), .val (.int p4), .val (.int p5), .val (.ref r5), .val (.ref r6), .unset, .unset, .unset, .unset, .unset, .unset, .unset] [(.int (0 : Int32)), (.int p3), (.ref r5)]))
    obtain ⟨rfl, N1q, e1⟩ := hQ1
    have N1 := Fr.app N0 N1q
    obtain ⟨_, T2, L2, X2, hQ2, st2⟩ := own_cV X1 hx hZ hown (notFace_of_selects (args := #[]) (mvT hZ (w36 hw))) (w33 hw) (w34 hw) (w36 hw) (w35 hw) (w2 hw) (w37 hw) LL.1.2.1 (own_A0 l Z a0 hw r5 w b1 r6 b2 p6 w_BOOLEAN w_DEF w_kDEF h0 n0 O0 P1 P2 q LL) e1 (hb hby at_38) hml pd_78 [(.ref w)] [] (g := (mkF m 38 #[.val (.int p1), .val (.int p2), .val (.int p3), .val (.int p4), .val (.int p5), .val (.ref r5), .val (.ref r6), .unset, .unset, .unset, .unset, .unset, .unset, .unset] [(.ref w), (.ref r5)]))
    obtain ⟨rfl, N2q, O2, b2, LL2⟩ := hQ2
    have N2 := Fr.app N1 N2q
    refine ⟨b2, _, _, _, X2.more (by decide) (by decide), rfl, N2, O2, LL2, fun t k => ?_⟩
    show Steps p.tables e below (T0.setTop (mkF m 27 #[.val (.int p1), .val (.int p2), .val (.int p3), .val (.int p4), .val (.int p5), .val (.ref r5), .val (.ref r6), .unset, .unset, .unset, .unset, .unset, .unset, .unset] [])) _
    refine XS.iloadN X0.here hx rfl (hb hby at_27) rfl ?_
    refine XS.ifNo X0.here hx rfl (hb hby at_28) rfl ((if0 _ _).trans (tlt hc).2.2.2) ?_
    refine XS.aload X0.here hx rfl (hb hby at_31) rfl rfl ?_
    refine XS.iloadN X0.here hx rfl (hb hby at_33) rfl ?_
    refine XS.iconst X0.here hx rfl (hb hby at_34) ?_
    refine st1 _ ?_
    refine st2 _ ?_
    refine XS.pop X2.here hx rfl (hb hby at_41) rfl rfl ?_
    show Steps p.tables e below (T2.setTop (mkF m 42 #[.val (.int p1), .val (.int p2), .val (.int p3), .val (.int p4), .val (.int p5), .val (.ref r5), .val (.ref r6), .unset, .unset, .unset, .unset, .unset, .unset, .unset] [])) _
    exact k
  · rw [← (own_mn0 p4 ha).1 hc]
    refine ⟨b1, _, _, _, X0.more (by decide) (by decide), e0, N0, O0, LL, fun t k => ?_⟩
    show Steps p.tables e below (T0.setTop (mkF m 27 #[.val (.int p1), .val (.int p2), .val (.int p3), .val (.int p4), .val (.int p5), .val (.ref r5), .val (.ref r6), .unset, .unset, .unset, .unset, .unset, .unset, .unset] [])) _
    refine XS.iloadN X0.here hx rfl (hb hby at_27) rfl ?_
    refine XS.ifYes X0.here hx rfl (pc0 := 28) (pc' := 42) rfl (hb hby at_28) rfl ((if0 _ _).trans (flt hc).2.2.2) (by decide) (by decide) ?_
    show Steps p.tables e below (T0.setTop (mkF m 42 #[.val (.int p1), .val (.int p2), .val (.int p3), .val (.int p4), .val (.int p5), .val (.ref r5), .val (.ref r6), .unset, .unset, .unset, .unset, .unset, .unset, .unset] [])) _
    exact k
theorem own_d1 (l : Launch) (Z : State) (a0 : Array Value) (hw : own_HW a0 Z) {p : Program} {e : Env} {s : State} {m : MethodId} {args : Array Value} {below : List Frame} {meth : Method} {c : Code} (hx : p.tables.exec = Jvm.exec) (hby : c.code = code) (hml : c.maxLocals = 14) (hown : s.vm.findClass sN17 = some m.cls) (hZ : Z.Warmed39 s.vm) (n0 : Nat) (p1 : Int32) (p2 : Int32) (p3 : Int32) (p4 : Int32) (p5 : Int32) (r5 : Addr) (r6 : Addr) (w_BOOLEAN : Addr) (w_DEF : Addr) (p6 : Int32) (b1 b2 : Addr) (ha : own_In p4) (PK : own_Pick l Z n0 w_BOOLEAN p3 (1 : Int32)) (h0 : Heap) {T0 : State} {L0 : List Loc} (X0 : Stand p l e room_1 s m args below meth c T0 L0 3 16) (e0 : T0.heap = h0) (N0 : Fr n0 L0) (O0 : Old Z n0 h0)  (LL : own_LL Z n0 w_DEF w_BOOLEAN h0 r5 b1 (own_mn p4 (1 : Int32)) r6 b2 p6) :
    ∃ (b : Addr) (h1 : Heap) (T1 : State) (L1 : List Loc), Stand p l e room_1 s m args below meth c T1 L1 4 26 ∧ T1.heap = h1 ∧ Fr n0 L1 ∧ Old Z n0 h1 ∧ own_LL Z n0 w_DEF w_BOOLEAN h1 r5 b (own_mn p4 (2 : Int32)) r6 b2 p6 ∧ ∀ t, Steps p.tables e below (T1.setTop (mkF m 58 #[.val (.int p1), .val (.int p2), .val (.int p3), .val (.int p4), .val (.int p5), .val (.ref r5), .val (.ref r6), .unset, .unset, .unset, .unset, .unset, .unset, .unset] [])) t → Steps p.tables e below (T0.setTop (mkF m 42 #[.val (.int p1), .val (.int p2), .val (.int p3), .val (.int p4), .val (.int p5), .val (.ref r5), .val (.ref r6), .unset, .unset, .unset, .unset, .unset, .unset, .unset] [])) t := by
  by_cases hc : (1 : Int32) < p4
  · obtain ⟨w, q, PKw⟩ := PK
    obtain ⟨g1, g2⟩ := (own_mn1 p4 ha).2 hc
    rw [g1] at LL
    rw [g2]
    obtain ⟨_, T1, L1, X1, hQ1, st1⟩ := own_cS X0 hx hZ hown (w26 hw) (w27 hw) (w28 hw) (w29 hw) (PKw h0 O0) e0 (hb hby at_51) hml pd_92 [(.int p3), (.int (1 : Int32))] [(.ref r5)] (g := (mkF m 51 #[.val (.int p1), .val (.int p2), .val (.int p3), .val (.int p4), .val (.int p5), .val (.ref r5), .val (.ref r6), .unset, .unset, .unset, .unset, .unset, .unset, .unset] [(.int (1 : Int32)), (.int p3), (.ref r5)]))
    obtain ⟨rfl, N1q, e1⟩ := hQ1
    have N1 := Fr.app N0 N1q
    obtain ⟨_, T2, L2, X2, hQ2, st2⟩ := own_cV X1 hx hZ hown (notFace_of_selects (args := #[]) (mvT hZ (w36 hw))) (w33 hw) (w34 hw) (w36 hw) (w35 hw) (w2 hw) (w37 hw) LL.1.2.1 (own_A1 l Z a0 hw r5 w b1 r6 b2 p6 w_BOOLEAN w_DEF h0 n0 O0  q LL) e1 (hb hby at_54) hml pd_78 [(.ref w)] [] (g := (mkF m 54 #[.val (.int p1), .val (.int p2), .val (.int p3), .val (.int p4), .val (.int p5), .val (.ref r5), .val (.ref r6), .unset, .unset, .unset, .unset, .unset, .unset, .unset] [(.ref w), (.ref r5)]))
    obtain ⟨rfl, N2q, O2, b2, LL2⟩ := hQ2
    have N2 := Fr.app N1 N2q
    refine ⟨b2, _, _, _, X2.more (by decide) (by decide), rfl, N2, O2, LL2, fun t k => ?_⟩
    show Steps p.tables e below (T0.setTop (mkF m 42 #[.val (.int p1), .val (.int p2), .val (.int p3), .val (.int p4), .val (.int p5), .val (.ref r5), .val (.ref r6), .unset, .unset, .unset, .unset, .unset, .unset, .unset] [])) _
    refine XS.iloadN X0.here hx rfl (hb hby at_42) rfl ?_
    refine XS.iconst X0.here hx rfl (hb hby at_43) ?_
    refine XS.icmpNo X0.here hx rfl (hb hby at_44) rfl (tlt hc).2.2.2 ?_
    refine XS.aload X0.here hx rfl (hb hby at_47) rfl rfl ?_
    refine XS.iloadN X0.here hx rfl (hb hby at_49) rfl ?_
    refine XS.iconst X0.here hx rfl (hb hby at_50) ?_
    refine st1 _ ?_
    refine st2 _ ?_
    show Steps p.tables e below (T2.setTop (mkF m 57 #[.val (.int p1), .val (.int p2), .val (.int p3), .val (.int p4), .val (.int p5), .val (.ref r5), .val (.ref r6), .unset, .unset, .unset, .unset, .unset, .unset, .unset] [(.int (1 : Int32))])) _
    refine XS.pop X2.here hx rfl (hb hby at_57) rfl rfl ?_
    show Steps p.tables e below (T2.setTop (mkF m 58 #[.val (.int p1), .val (.int p2), .val (.int p3), .val (.int p4), .val (.int p5), .val (.ref r5), .val (.ref r6), .unset, .unset, .unset, .unset, .unset, .unset, .unset] [])) _
    exact k
  · rw [← (own_mn1 p4 ha).1 hc]
    refine ⟨b1, _, _, _, X0.more (by decide) (by decide), e0, N0, O0, LL, fun t k => ?_⟩
    show Steps p.tables e below (T0.setTop (mkF m 42 #[.val (.int p1), .val (.int p2), .val (.int p3), .val (.int p4), .val (.int p5), .val (.ref r5), .val (.ref r6), .unset, .unset, .unset, .unset, .unset, .unset, .unset] [])) _
    refine XS.iloadN X0.here hx rfl (hb hby at_42) rfl ?_
    refine XS.iconst X0.here hx rfl (hb hby at_43) ?_
    refine XS.icmpYes X0.here hx rfl (pc0 := 44) (pc' := 58) rfl (hb hby at_44) rfl (flt hc).2.2.2 (by decide) (by decide) ?_
    show Steps p.tables e below (T0.setTop (mkF m 58 #[.val (.int p1), .val (.int p2), .val (.int p3), .val (.int p4), .val (.int p5), .val (.ref r5), .val (.ref r6), .unset, .unset, .unset, .unset, .unset, .unset, .unset] [])) _
    exact k
theorem own_d2 (l : Launch) (Z : State) (a0 : Array Value) (hw : own_HW a0 Z) {p : Program} {e : Env} {s : State} {m : MethodId} {args : Array Value} {below : List Frame} {meth : Method} {c : Code} (hx : p.tables.exec = Jvm.exec) (hby : c.code = code) (hml : c.maxLocals = 14) (hown : s.vm.findClass sN17 = some m.cls) (hZ : Z.Warmed39 s.vm) (n0 : Nat) (p1 : Int32) (p2 : Int32) (p3 : Int32) (p4 : Int32) (p5 : Int32) (r5 : Addr) (r6 : Addr) (w_BOOLEAN : Addr) (w_DEF : Addr) (p6 : Int32) (b1 b2 : Addr) (ha : own_In p4) (PK : own_Pick l Z n0 w_BOOLEAN p3 (2 : Int32)) (h0 : Heap) {T0 : State} {L0 : List Loc} (X0 : Stand p l e room_1 s m args below meth c T0 L0 4 26) (e0 : T0.heap = h0) (N0 : Fr n0 L0) (O0 : Old Z n0 h0)  (LL : own_LL Z n0 w_DEF w_BOOLEAN h0 r5 b1 (own_mn p4 (2 : Int32)) r6 b2 p6) :
    ∃ (b : Addr) (h1 : Heap) (T1 : State) (L1 : List Loc), Stand p l e room_1 s m args below meth c T1 L1 5 36 ∧ T1.heap = h1 ∧ Fr n0 L1 ∧ Old Z n0 h1 ∧ own_LL Z n0 w_DEF w_BOOLEAN h1 r5 b (own_mn p4 (3 : Int32)) r6 b2 p6 ∧ ∀ t, Steps p.tables e below (T1.setTop (mkF m 74 #[.val (.int p1), .val (.int p2), .val (.int p3), .val (.int p4), .val (.int p5), .val (.ref r5), .val (.ref r6), .unset, .unset, .unset, .unset, .unset, .unset, .unset] [])) t → Steps p.tables e below (T0.setTop (mkF m 58 #[.val (.int p1), .val (.int p2), .val (.int p3), .val (.int p4), .val (.int p5), .val (.ref r5), .val (.ref r6), .unset, .unset, .unset, .unset, .unset, .unset, .unset] [])) t := by
  by_cases hc : (2 : Int32) < p4
  · obtain ⟨w, q, PKw⟩ := PK
    obtain ⟨g1, g2⟩ := (own_mn2 p4 ha).2 hc
    rw [g1] at LL
    rw [g2]
    obtain ⟨_, T1, L1, X1, hQ1, st1⟩ := own_cS X0 hx hZ hown (w26 hw) (w27 hw) (w28 hw) (w29 hw) (PKw h0 O0) e0 (hb hby at_67) hml pd_92 [(.int p3), (.int (2 : Int32))] [(.ref r5)] (g := (mkF m 67 #[.val (.int p1), .val (.int p2), .val (.int p3), .val (.int p4), .val (.int p5), .val (.ref r5), .val (.ref r6), .unset, .unset, .unset, .unset, .unset, .unset, .unset] [(.int (2 : Int32)), (.int p3), (.ref r5)]))
    obtain ⟨rfl, N1q, e1⟩ := hQ1
    have N1 := Fr.app N0 N1q
    obtain ⟨_, T2, L2, X2, hQ2, st2⟩ := own_cV X1 hx hZ hown (notFace_of_selects (args := #[]) (mvT hZ (w36 hw))) (w33 hw) (w34 hw) (w36 hw) (w35 hw) (w2 hw) (w37 hw) LL.1.2.1 (own_A2 l Z a0 hw r5 w b1 r6 b2 p6 w_BOOLEAN w_DEF h0 n0 O0  q LL) e1 (hb hby at_70) hml pd_78 [(.ref w)] [] (g := (mkF m 70 #[.val (.int p1), .val (.int p2), .val (.int p3), .val (.int p4), .val (.int p5), .val (.ref r5), .val (.ref r6), .unset, .unset, .unset, .unset, .unset, .unset, .unset] [(.ref w), (.ref r5)]))
    obtain ⟨rfl, N2q, O2, b2, LL2⟩ := hQ2
    have N2 := Fr.app N1 N2q
    refine ⟨b2, _, _, _, X2.more (by decide) (by decide), rfl, N2, O2, LL2, fun t k => ?_⟩
    show Steps p.tables e below (T0.setTop (mkF m 58 #[.val (.int p1), .val (.int p2), .val (.int p3), .val (.int p4), .val (.int p5), .val (.ref r5), .val (.ref r6), .unset, .unset, .unset, .unset, .unset, .unset, .unset] [])) _
    refine XS.iloadN X0.here hx rfl (hb hby at_58) rfl ?_
    refine XS.iconst X0.here hx rfl (hb hby at_59) ?_
    refine XS.icmpNo X0.here hx rfl (hb hby at_60) rfl (tlt hc).2.2.2 ?_
    refine XS.aload X0.here hx rfl (hb hby at_63) rfl rfl ?_
    refine XS.iloadN X0.here hx rfl (hb hby at_65) rfl ?_
    refine XS.iconst X0.here hx rfl (hb hby at_66) ?_
    refine st1 _ ?_
    refine st2 _ ?_
    show Steps p.tables e below (T2.setTop (mkF m 73 #[.val (.int p1), .val (.int p2), .val (.int p3), .val (.int p4), .val (.int p5), .val (.ref r5), .val (.ref r6), .unset, .unset, .unset, .unset, .unset, .unset, .unset] [(.int (1 : Int32))])) _
    refine XS.pop X2.here hx rfl (hb hby at_73) rfl rfl ?_
    show Steps p.tables e below (T2.setTop (mkF m 74 #[.val (.int p1), .val (.int p2), .val (.int p3), .val (.int p4), .val (.int p5), .val (.ref r5), .val (.ref r6), .unset, .unset, .unset, .unset, .unset, .unset, .unset] [])) _
    exact k
  · rw [← (own_mn2 p4 ha).1 hc]
    refine ⟨b1, _, _, _, X0.more (by decide) (by decide), e0, N0, O0, LL, fun t k => ?_⟩
    show Steps p.tables e below (T0.setTop (mkF m 58 #[.val (.int p1), .val (.int p2), .val (.int p3), .val (.int p4), .val (.int p5), .val (.ref r5), .val (.ref r6), .unset, .unset, .unset, .unset, .unset, .unset, .unset] [])) _
    refine XS.iloadN X0.here hx rfl (hb hby at_58) rfl ?_
    refine XS.iconst X0.here hx rfl (hb hby at_59) ?_
    refine XS.icmpYes X0.here hx rfl (pc0 := 60) (pc' := 74) rfl (hb hby at_60) rfl (flt hc).2.2.2 (by decide) (by decide) ?_
    show Steps p.tables e below (T0.setTop (mkF m 74 #[.val (.int p1), .val (.int p2), .val (.int p3), .val (.int p4), .val (.int p5), .val (.ref r5), .val (.ref r6), .unset, .unset, .unset, .unset, .unset, .unset, .unset] [])) _
    exact k
theorem own_d3 (l : Launch) (Z : State) (a0 : Array Value) (hw : own_HW a0 Z) {p : Program} {e : Env} {s : State} {m : MethodId} {args : Array Value} {below : List Frame} {meth : Method} {c : Code} (hx : p.tables.exec = Jvm.exec) (hby : c.code = code) (hml : c.maxLocals = 14) (hown : s.vm.findClass sN17 = some m.cls) (hZ : Z.Warmed39 s.vm) (n0 : Nat) (p1 : Int32) (p2 : Int32) (p3 : Int32) (p4 : Int32) (p5 : Int32) (r5 : Addr) (r6 : Addr) (w_BOOLEAN : Addr) (w_DEF : Addr) (w_kDEF : ClassId) (p6 : Int32) (b1 b2 : Addr) (ha : own_In p5) (PK : own_Pick l Z n0 w_BOOLEAN p3 (3 : Int32)) (h0 : Heap) {T0 : State} {L0 : List Loc} (X0 : Stand p l e room_1 s m args below meth c T0 L0 5 36) (e0 : T0.heap = h0) (N0 : Fr n0 L0) (O0 : Old Z n0 h0) (P1 : Arv Z Z.heap w_DEF w_kDEF (.object sN1) (0 : Int32) [] .null) (P2 : Sta Z Z.heap sN0 sN31 sN4 (.ref w_DEF)) (LL : own_LL Z n0 w_DEF w_BOOLEAN h0 r6 b1 (own_mn p5 (0 : Int32)) r5 b2 p6) :
    ∃ (b : Addr) (h1 : Heap) (T1 : State) (L1 : List Loc), Stand p l e room_1 s m args below meth c T1 L1 6 46 ∧ T1.heap = h1 ∧ Fr n0 L1 ∧ Old Z n0 h1 ∧ own_LL Z n0 w_DEF w_BOOLEAN h1 r6 b (own_mn p5 (1 : Int32)) r5 b2 p6 ∧ ∀ t, Steps p.tables e below (T1.setTop (mkF m 90 #[.val (.int p1), .val (.int p2), .val (.int p3), .val (.int p4), .val (.int p5), .val (.ref r5), .val (.ref r6), .unset, .unset, .unset, .unset, .unset, .unset, .unset] [])) t → Steps p.tables e below (T0.setTop (mkF m 74 #[.val (.int p1), .val (.int p2), .val (.int p3), .val (.int p4), .val (.int p5), .val (.ref r5), .val (.ref r6), .unset, .unset, .unset, .unset, .unset, .unset, .unset] [])) t := by
  by_cases hc : (0 : Int32) < p5
  · obtain ⟨w, q, PKw⟩ := PK
    obtain ⟨g1, g2⟩ := (own_mn0 p5 ha).2 hc
    rw [g1] at LL
    rw [g2]
    obtain ⟨_, T1, L1, X1, hQ1, st1⟩ := own_cS X0 hx hZ hown (w26 hw) (w27 hw) (w28 hw) (w29 hw) (PKw h0 O0) e0 (hb hby at_83) hml pd_92 [(.int p3), (.int (3 : Int32))] [(.ref r6)] (g := (mkF m 83 #[.val (.int p1), .val (.int p2), .val (.int p3), .val (.int p4), .val (.int p5), .val (.ref r5), .val (.ref r6), .unset, .unset, .unset, .unset, .unset, .unset, .unset] [(.int (3 : Int32)), (.int p3), (.ref r6)]))
    obtain ⟨rfl, N1q, e1⟩ := hQ1
    have N1 := Fr.app N0 N1q
    obtain ⟨_, T2, L2, X2, hQ2, st2⟩ := own_cV X1 hx hZ hown (notFace_of_selects (args := #[]) (mvT hZ (w36 hw))) (w33 hw) (w34 hw) (w36 hw) (w35 hw) (w2 hw) (w37 hw) LL.1.2.1 (own_A0 l Z a0 hw r6 w b1 r5 b2 p6 w_BOOLEAN w_DEF w_kDEF h0 n0 O0 P1 P2 q LL) e1 (hb hby at_86) hml pd_78 [(.ref w)] [] (g := (mkF m 86 #[.val (.int p1), .val (.int p2), .val (.int p3), .val (.int p4), .val (.int p5), .val (.ref r5), .val (.ref r6), .unset, .unset, .unset, .unset, .unset, .unset, .unset] [(.ref w), (.ref r6)]))
    obtain ⟨rfl, N2q, O2, b2, LL2⟩ := hQ2
    have N2 := Fr.app N1 N2q
    refine ⟨b2, _, _, _, X2.more (by decide) (by decide), rfl, N2, O2, LL2, fun t k => ?_⟩
    show Steps p.tables e below (T0.setTop (mkF m 74 #[.val (.int p1), .val (.int p2), .val (.int p3), .val (.int p4), .val (.int p5), .val (.ref r5), .val (.ref r6), .unset, .unset, .unset, .unset, .unset, .unset, .unset] [])) _
    refine XS.iload X0.here hx rfl (hb hby at_74) rfl ?_
    refine XS.ifNo X0.here hx rfl (hb hby at_76) rfl ((if0 _ _).trans (tlt hc).2.2.2) ?_
    refine XS.aload X0.here hx rfl (hb hby at_79) rfl rfl ?_
    refine XS.iloadN X0.here hx rfl (hb hby at_81) rfl ?_
    refine XS.iconst X0.here hx rfl (hb hby at_82) ?_
    refine st1 _ ?_
    refine st2 _ ?_
    refine XS.pop X2.here hx rfl (hb hby at_89) rfl rfl ?_
    show Steps p.tables e below (T2.setTop (mkF m 90 #[.val (.int p1), .val (.int p2), .val (.int p3), .val (.int p4), .val (.int p5), .val (.ref r5), .val (.ref r6), .unset, .unset, .unset, .unset, .unset, .unset, .unset] [])) _
    exact k
  · rw [← (own_mn0 p5 ha).1 hc]
    refine ⟨b1, _, _, _, X0.more (by decide) (by decide), e0, N0, O0, LL, fun t k => ?_⟩
    show Steps p.tables e below (T0.setTop (mkF m 74 #[.val (.int p1), .val (.int p2), .val (.int p3), .val (.int p4), .val (.int p5), .val (.ref r5), .val (.ref r6), .unset, .unset, .unset, .unset, .unset, .unset, .unset] [])) _
    refine XS.iload X0.here hx rfl (hb hby at_74) rfl ?_
    refine XS.ifYes X0.here hx rfl (pc0 := 76) (pc' := 90) rfl (hb hby at_76) rfl ((if0 _ _).trans (flt hc).2.2.2) (by decide) (by decide) ?_
    show Steps p.tables e below (T0.setTop (mkF m 90 #[.val (.int p1), .val (.int p2), .val (.int p3), .val (.int p4), .val (.int p5), .val (.ref r5), .val (.ref r6), .unset, .unset, .unset, .unset, .unset, .unset, .unset] [])) _
    exact k
theorem own_d4 (l : Launch) (Z : State) (a0 : Array Value) (hw : own_HW a0 Z) {p : Program} {e : Env} {s : State} {m : MethodId} {args : Array Value} {below : List Frame} {meth : Method} {c : Code} (hx : p.tables.exec = Jvm.exec) (hby : c.code = code) (hml : c.maxLocals = 14) (hown : s.vm.findClass sN17 = some m.cls) (hZ : Z.Warmed39 s.vm) (n0 : Nat) (p1 : Int32) (p2 : Int32) (p3 : Int32) (p4 : Int32) (p5 : Int32) (r5 : Addr) (r6 : Addr) (w_BOOLEAN : Addr) (w_DEF : Addr) (p6 : Int32) (b1 b2 : Addr) (ha : own_In p5) (PK : own_Pick l Z n0 w_BOOLEAN p3 (4 : Int32)) (h0 : Heap) {T0 : State} {L0 : List Loc} (X0 : Stand p l e room_1 s m args below meth c T0 L0 6 46) (e0 : T0.heap = h0) (N0 : Fr n0 L0) (O0 : Old Z n0 h0)  (LL : own_LL Z n0 w_DEF w_BOOLEAN h0 r6 b1 (own_mn p5 (1 : Int32)) r5 b2 p6) :
    ∃ (b : Addr) (h1 : Heap) (T1 : State) (L1 : List Loc), Stand p l e room_1 s m args below meth c T1 L1 7 56 ∧ T1.heap = h1 ∧ Fr n0 L1 ∧ Old Z n0 h1 ∧ own_LL Z n0 w_DEF w_BOOLEAN h1 r6 b (own_mn p5 (2 : Int32)) r5 b2 p6 ∧ ∀ t, Steps p.tables e below (T1.setTop (mkF m 107 #[.val (.int p1), .val (.int p2), .val (.int p3), .val (.int p4), .val (.int p5), .val (.ref r5), .val (.ref r6), .unset, .unset, .unset, .unset, .unset, .unset, .unset] [])) t → Steps p.tables e below (T0.setTop (mkF m 90 #[.val (.int p1), .val (.int p2), .val (.int p3), .val (.int p4), .val (.int p5), .val (.ref r5), .val (.ref r6), .unset, .unset, .unset, .unset, .unset, .unset, .unset] [])) t := by
  by_cases hc : (1 : Int32) < p5
  · obtain ⟨w, q, PKw⟩ := PK
    obtain ⟨g1, g2⟩ := (own_mn1 p5 ha).2 hc
    rw [g1] at LL
    rw [g2]
    obtain ⟨_, T1, L1, X1, hQ1, st1⟩ := own_cS X0 hx hZ hown (w26 hw) (w27 hw) (w28 hw) (w29 hw) (PKw h0 O0) e0 (hb hby at_100) hml pd_92 [(.int p3), (.int (4 : Int32))] [(.ref r6)] (g := (mkF m 100 #[.val (.int p1), .val (.int p2), .val (.int p3), .val (.int p4), .val (.int p5), .val (.ref r5), .val (.ref r6), .unset, .unset, .unset, .unset, .unset, .unset, .unset] [(.int (4 : Int32)), (.int p3), (.ref r6)]))
    obtain ⟨rfl, N1q, e1⟩ := hQ1
    have N1 := Fr.app N0 N1q
    obtain ⟨_, T2, L2, X2, hQ2, st2⟩ := own_cV X1 hx hZ hown (notFace_of_selects (args := #[]) (mvT hZ (w36 hw))) (w33 hw) (w34 hw) (w36 hw) (w35 hw) (w2 hw) (w37 hw) LL.1.2.1 (own_A1 l Z a0 hw r6 w b1 r5 b2 p6 w_BOOLEAN w_DEF h0 n0 O0  q LL) e1 (hb hby at_103) hml pd_78 [(.ref w)] [] (g := (mkF m 103 #[.val (.int p1), .val (.int p2), .val (.int p3), .val (.int p4), .val (.int p5), .val (.ref r5), .val (.ref r6), .unset, .unset, .unset, .unset, .unset, .unset, .unset] [(.ref w), (.ref r6)]))
    obtain ⟨rfl, N2q, O2, b2, LL2⟩ := hQ2
    have N2 := Fr.app N1 N2q
    refine ⟨b2, _, _, _, X2.more (by decide) (by decide), rfl, N2, O2, LL2, fun t k => ?_⟩
    show Steps p.tables e below (T0.setTop (mkF m 90 #[.val (.int p1), .val (.int p2), .val (.int p3), .val (.int p4), .val (.int p5), .val (.ref r5), .val (.ref r6), .unset, .unset, .unset, .unset, .unset, .unset, .unset] [])) _
    refine XS.iload X0.here hx rfl (hb hby at_90) rfl ?_
    refine XS.iconst X0.here hx rfl (hb hby at_92) ?_
    refine XS.icmpNo X0.here hx rfl (hb hby at_93) rfl (tlt hc).2.2.2 ?_
    refine XS.aload X0.here hx rfl (hb hby at_96) rfl rfl ?_
    refine XS.iloadN X0.here hx rfl (hb hby at_98) rfl ?_
    refine XS.iconst X0.here hx rfl (hb hby at_99) ?_
    refine st1 _ ?_
    refine st2 _ ?_
    show Steps p.tables e below (T2.setTop (mkF m 106 #[.val (.int p1), .val (.int p2), .val (.int p3), .val (.int p4), .val (.int p5), .val (.ref r5), .val (.ref r6), .unset, .unset, .unset, .unset, .unset, .unset, .unset] [(.int (1 : Int32))])) _
    refine XS.pop X2.here hx rfl (hb hby at_106) rfl rfl ?_
    show Steps p.tables e below (T2.setTop (mkF m 107 #[.val (.int p1), .val (.int p2), .val (.int p3), .val (.int p4), .val (.int p5), .val (.ref r5), .val (.ref r6), .unset, .unset, .unset, .unset, .unset, .unset, .unset] [])) _
    exact k
  · rw [← (own_mn1 p5 ha).1 hc]
    refine ⟨b1, _, _, _, X0.more (by decide) (by decide), e0, N0, O0, LL, fun t k => ?_⟩
    show Steps p.tables e below (T0.setTop (mkF m 90 #[.val (.int p1), .val (.int p2), .val (.int p3), .val (.int p4), .val (.int p5), .val (.ref r5), .val (.ref r6), .unset, .unset, .unset, .unset, .unset, .unset, .unset] [])) _
    refine XS.iload X0.here hx rfl (hb hby at_90) rfl ?_
    refine XS.iconst X0.here hx rfl (hb hby at_92) ?_
    refine XS.icmpYes X0.here hx rfl (pc0 := 93) (pc' := 107) rfl (hb hby at_93) rfl (flt hc).2.2.2 (by decide) (by decide) ?_
    show Steps p.tables e below (T0.setTop (mkF m 107 #[.val (.int p1), .val (.int p2), .val (.int p3), .val (.int p4), .val (.int p5), .val (.ref r5), .val (.ref r6), .unset, .unset, .unset, .unset, .unset, .unset, .unset] [])) _
    exact k
theorem own_d5 (l : Launch) (Z : State) (a0 : Array Value) (hw : own_HW a0 Z) {p : Program} {e : Env} {s : State} {m : MethodId} {args : Array Value} {below : List Frame} {meth : Method} {c : Code} (hx : p.tables.exec = Jvm.exec) (hby : c.code = code) (hml : c.maxLocals = 14) (hown : s.vm.findClass sN17 = some m.cls) (hZ : Z.Warmed39 s.vm) (n0 : Nat) (p1 : Int32) (p2 : Int32) (p3 : Int32) (p4 : Int32) (p5 : Int32) (r5 : Addr) (r6 : Addr) (w_BOOLEAN : Addr) (w_DEF : Addr) (p6 : Int32) (b1 b2 : Addr) (ha : own_In p5) (PK : own_Pick l Z n0 w_BOOLEAN p3 (5 : Int32)) (h0 : Heap) {T0 : State} {L0 : List Loc} (X0 : Stand p l e room_1 s m args below meth c T0 L0 7 56) (e0 : T0.heap = h0) (N0 : Fr n0 L0) (O0 : Old Z n0 h0)  (LL : own_LL Z n0 w_DEF w_BOOLEAN h0 r6 b1 (own_mn p5 (2 : Int32)) r5 b2 p6) :
    ∃ (b : Addr) (h1 : Heap) (T1 : State) (L1 : List Loc), Stand p l e room_1 s m args below meth c T1 L1 8 66 ∧ T1.heap = h1 ∧ Fr n0 L1 ∧ Old Z n0 h1 ∧ own_LL Z n0 w_DEF w_BOOLEAN h1 r6 b (own_mn p5 (3 : Int32)) r5 b2 p6 ∧ ∀ t, Steps p.tables e below (T1.setTop (mkF m 124 #[.val (.int p1), .val (.int p2), .val (.int p3), .val (.int p4), .val (.int p5), .val (.ref r5), .val (.ref r6), .unset, .unset, .unset, .unset, .unset, .unset, .unset] [])) t → Steps p.tables e below (T0.setTop (mkF m 107 #[.val (.int p1), .val (.int p2), .val (.int p3), .val (.int p4), .val (.int p5), .val (.ref r5), .val (.ref r6), .unset, .unset, .unset, .unset, .unset, .unset, .unset] [])) t := by
  by_cases hc : (2 : Int32) < p5
  · obtain ⟨w, q, PKw⟩ := PK
    obtain ⟨g1, g2⟩ := (own_mn2 p5 ha).2 hc
    rw [g1] at LL
    rw [g2]
    obtain ⟨_, T1, L1, X1, hQ1, st1⟩ := own_cS X0 hx hZ hown (w26 hw) (w27 hw) (w28 hw) (w29 hw) (PKw h0 O0) e0 (hb hby at_117) hml pd_92 [(.int p3), (.int (5 : Int32))] [(.ref r6)] (g := (mkF m 117 #[.val (.int p1), .val (.int p2), .val (.int p3), .val (.int p4), .val (.int p5), .val (.ref r5), .val (.ref r6), .unset, .unset, .unset, .unset, .unset, .unset, .unset] [(.int (5 : Int32)), (.int p3), (.ref r6)]))
    obtain ⟨rfl, N1q, e1⟩ := hQ1
    have N1 := Fr.app N0 N1q
    obtain ⟨_, T2, L2, X2, hQ2, st2⟩ := own_cV X1 hx hZ hown (notFace_of_selects (args := #[]) (mvT hZ (w36 hw))) (w33 hw) (w34 hw) (w36 hw) (w35 hw) (w2 hw) (w37 hw) LL.1.2.1 (own_A2 l Z a0 hw r6 w b1 r5 b2 p6 w_BOOLEAN w_DEF h0 n0 O0  q LL) e1 (hb hby at_120) hml pd_78 [(.ref w)] [] (g := (mkF m 120 #[.val (.int p1), .val (.int p2), .val (.int p3), .val (.int p4), .val (.int p5), .val (.ref r5), .val (.ref r6), .unset, .unset, .unset, .unset, .unset, .unset, .unset] [(.ref w), (.ref r6)]))
    obtain ⟨rfl, N2q, O2, b2, LL2⟩ := hQ2
    have N2 := Fr.app N1 N2q
    refine ⟨b2, _, _, _, X2.more (by decide) (by decide), rfl, N2, O2, LL2, fun t k => ?_⟩
    show Steps p.tables e below (T0.setTop (mkF m 107 #[.val (.int p1), .val (.int p2), .val (.int p3), .val (.int p4), .val (.int p5), .val (.ref r5), .val (.ref r6), .unset, .unset, .unset, .unset, .unset, .unset, .unset] [])) _
    refine XS.iload X0.here hx rfl (hb hby at_107) rfl ?_
    refine XS.iconst X0.here hx rfl (hb hby at_109) ?_
    refine XS.icmpNo X0.here hx rfl (hb hby at_110) rfl (tlt hc).2.2.2 ?_
    refine XS.aload X0.here hx rfl (hb hby at_113) rfl rfl ?_
    refine XS.iloadN X0.here hx rfl (hb hby at_115) rfl ?_
    refine XS.iconst X0.here hx rfl (hb hby at_116) ?_
    refine st1 _ ?_
    refine st2 _ ?_
    show Steps p.tables e below (T2.setTop (mkF m 123 #[.val (.int p1), .val (.int p2), .val (.int p3), .val (.int p4), .val (.int p5), .val (.ref r5), .val (.ref r6), .unset, .unset, .unset, .unset, .unset, .unset, .unset] [(.int (1 : Int32))])) _
    refine XS.pop X2.here hx rfl (hb hby at_123) rfl rfl ?_
    show Steps p.tables e below (T2.setTop (mkF m 124 #[.val (.int p1), .val (.int p2), .val (.int p3), .val (.int p4), .val (.int p5), .val (.ref r5), .val (.ref r6), .unset, .unset, .unset, .unset, .unset, .unset, .unset] [])) _
    exact k
  · rw [← (own_mn2 p5 ha).1 hc]
    refine ⟨b1, _, _, _, X0.more (by decide) (by decide), e0, N0, O0, LL, fun t k => ?_⟩
    show Steps p.tables e below (T0.setTop (mkF m 107 #[.val (.int p1), .val (.int p2), .val (.int p3), .val (.int p4), .val (.int p5), .val (.ref r5), .val (.ref r6), .unset, .unset, .unset, .unset, .unset, .unset, .unset] [])) _
    refine XS.iload X0.here hx rfl (hb hby at_107) rfl ?_
    refine XS.iconst X0.here hx rfl (hb hby at_109) ?_
    refine XS.icmpYes X0.here hx rfl (pc0 := 110) (pc' := 124) rfl (hb hby at_110) rfl (flt hc).2.2.2 (by decide) (by decide) ?_
    show Steps p.tables e below (T0.setTop (mkF m 124 #[.val (.int p1), .val (.int p2), .val (.int p3), .val (.int p4), .val (.int p5), .val (.ref r5), .val (.ref r6), .unset, .unset, .unset, .unset, .unset, .unset, .unset] [])) _
    exact k
theorem own_s1 (l : Launch) (Z : State) (a0 : Array Value) (hw : own_HW a0 Z) {p : Program} {e : Env} {s : State} {m : MethodId} {args : Array Value} {below : List Frame} {meth : Method} {c : Code} (hx : p.tables.exec = Jvm.exec) (hby : c.code = code) (hml : c.maxLocals = 14) (hown : s.vm.findClass sN17 = some m.cls) (hZ : Z.Warmed39 s.vm) (n0 : Nat) (p1 : Int32) (p2 : Int32) (p3 : Int32) (p4 : Int32) (p5 : Int32) (r5 : Addr) (r6 : Addr) (w_DEF : Addr) (w_BOOLEAN : Addr) (u1 : Addr) (u2 : Addr) (w_LIST : Addr) (w_LELS : Addr) (w_kLEL : ClassId) (w_MIR : Addr) (w_NIL : Addr)  (h0 : Heap) {T0 : State} {L0 : List Loc} (X0 : Stand p l e room_1 s m args below meth c T0 L0 8 66) (e0 : T0.heap = h0) (N0 : Fr n0 L0) (O0 : Old Z n0 h0) (P1 : own_LS Z n0 w_DEF w_BOOLEAN h0 r5 u1 p4) (P2 : own_LS Z n0 w_DEF w_BOOLEAN h0 r6 u2 p5) (P3 : Sta Z Z.heap sN12 "BOOLEAN" sN15 (.ref w_BOOLEAN)) (P4 : Exa Z Z.heap w_BOOLEAN sN12) (P5 : Sta Z Z.heap sN14 "EMPTY_LIST" sN34 (.ref w_LIST)) (P6 : Exa Z Z.heap w_LIST sN7) (P7 : Fld Z Z.heap w_LIST sN7 "elements" sN4 (.ref w_LELS)) (P8 : Arv Z Z.heap w_LELS w_kLEL (.object sN1) (0 : Int32) [] .null) (P9 : Mir Z sN4 w_MIR) (P10 : Sta Z Z.heap sN14 "EMPTY" sN11 (.ref w_NIL)) (P11 : Exa Z Z.heap w_NIL sN1) :
    ∃ (r7 : Addr) (h1 : Heap) (T1 : State) (L1 : List Loc), Stand p l e room_1 s m args below meth c T1 L1 13 83 ∧ T1.heap = h1 ∧ Fr n0 L1 ∧ Old Z n0 h1 ∧ n0 ≤ r7 ∧ Exa Z h1 r7 sN2 ∧ Fld Z h1 r7 sN2 "dataType" sN15 (.ref w_BOOLEAN) ∧ Fld Z h1 r7 sN2 "size" "I" (.int p4) ∧ Fld Z h1 r7 sN2 "parts" sN10 .null ∧ own_LS Z n0 w_DEF w_BOOLEAN h1 r6 u2 p5 ∧ ∀ t, Steps p.tables e below (T1.setTop (mkF m 138 #[.val (.int p1), .val (.int p2), .val (.int p3), .val (.int p4), .val (.int p5), .val (.ref r5), .val (.ref r6), .val (.ref r7), .unset, .unset, .unset, .unset, .unset, .unset] [])) t → Steps p.tables e below (T0.setTop (mkF m 124 #[.val (.int p1), .val (.int p2), .val (.int p3), .val (.int p4), .val (.int p5), .val (.ref r5), .val (.ref r6), .unset, .unset, .unset, .unset, .unset, .unset, .unset] [])) t := by
  obtain ⟨T1, h1, X1, e1, E1, A1, D1, -, st1⟩ := newO X0 hx hZ hown (w64 hw) (w65 hw) (w66 hw) e0 (g := (mkF m 124 #[.val (.int p1), .val (.int p2), .val (.int p3), .val (.int p4), .val (.int p5), .val (.ref r5), .val (.ref r6), .unset, .unset, .unset, .unset, .unset, .unset, .unset] [])) rfl (hb hby at_124) (by decide) (by decide)
  obtain ⟨b1, gq1⟩ : ∃ z, z = h0.size := ⟨_, rfl⟩
  rw [← gq1] at A1 D1 st1
  have g_b1 : n0 ≤ b1 := Nat.le_trans ((O0.1 ▸ O0.2.1) : n0 ≤ h0.size) (Nat.le_of_eq gq1.symm)
  have sz_b1 : h0.size ≤ b1 := Nat.le_trans (Keep.refl h0 []).1 (Nat.le_of_eq gq1.symm)
  have KK1 : Keep h0 h1 [] := (Keep.refl h0 []).ext E1
  have O1 := O0.ext E1
  have F_dataType_b1 : Fld Z h1 b1 sN2 "dataType" sN15 .null := D1 (Or.inr (w81 hw)) (ty := (.object sN12)) (by decide)
  have F_values_b1 : Fld Z h1 b1 sN2 "values" sN10 .null := D1 (Or.inr (w110 hw)) (ty := (.object sN3)) (by decide)
  have F_size_b1 : Fld Z h1 b1 sN2 "size" "I" (.int (0 : Int32)) := D1 (Or.inr (w124 hw)) (ty := .int) (by decide)
  have F_parts_b1 : Fld Z h1 b1 sN2 "parts" sN10 .null := D1 (Or.inr (w126 hw)) (ty := (.object sN3)) (by decide)
  obtain ⟨T2, X2, e2, st2⟩ := getS2 X1 hx hZ hown (host := "") (Or.inl (w67 hw)) Via.refl e1 (P3.ext O1.2) (g := (mkF m 128 #[.val (.int p1), .val (.int p2), .val (.int p3), .val (.int p4), .val (.int p5), .val (.ref r5), .val (.ref r6), .unset, .unset, .unset, .unset, .unset, .unset, .unset] [(.ref b1), (.ref b1)])) rfl (hb hby at_128)
  obtain ⟨_, T3, L3, X3, hQ3, st3⟩ := own_cI X2 hx hZ hown rfl (w70 hw) (w71 hw) (w66 hw) (w72 hw) (own_B l Z a0 hw b1 r5 u1 p4 w_BOOLEAN w_LIST w_LELS w_kLEL w_MIR w_NIL h1 n0 O1 P4 P5 P6 P7 P8 P9 P10 P11 A1 F_dataType_b1 F_values_b1 F_size_b1 F_parts_b1 g_b1 (own_LS_keep P1 ((Keep.refl _ []).ext E1) nin0 fun _ _ => nin0)) e2 (hb hby at_133) hml pd_93 [(.ref w_BOOLEAN), (.ref r5)] [(.ref b1)] (g := (mkF m 133 #[.val (.int p1), .val (.int p2), .val (.int p3), .val (.int p4), .val (.int p5), .val (.ref r5), .val (.ref r6), .unset, .unset, .unset, .unset, .unset, .unset, .unset] [(.ref r5), (.ref w_BOOLEAN), (.ref b1), (.ref b1)]))
  obtain ⟨rfl, N3q, K3, f3_0, f3_1, f3_2⟩ := hQ3
  have KK3 : Keep h0 T3.heap [] := KK1.trans K3 (allS (Or.inr sz_b1) all0)
  have O3 := O1.keep K3 (allS g_b1 all0)
  have N3 := Fr.app N0 N3q
  have nz4 : r6 ≠ b1 := (ne_exa (P2.2.1.ext E1) A1 (by decide))
  refine ⟨b1, _, _, _, X3.more (by decide) (by decide), rfl, N3, O3, g_b1, (A1.keep K3), f3_0, f3_1, f3_2, (own_LS_keep (own_LS_keep P2 ((Keep.refl _ []).ext E1) nin0 fun _ _ => nin0) K3 (ninS nz4 nin0) fun _ Eb => ninS (ne_exa Eb A1 (by decide)) nin0), fun t k => ?_⟩
  show Steps p.tables e below (T0.setTop (mkF m 124 #[.val (.int p1), .val (.int p2), .val (.int p3), .val (.int p4), .val (.int p5), .val (.ref r5), .val (.ref r6), .unset, .unset, .unset, .unset, .unset, .unset, .unset] [])) _
  refine st1 _ ?_
  refine XS.dup X1.here hx rfl (hb hby at_127) rfl rfl ?_
  refine st2 _ ?_
  refine XS.aload X2.here hx rfl (hb hby at_131) rfl rfl ?_
  refine st3 _ ?_
  refine XS.astore X3.here hx rfl (hb hby at_136) rfl rfl (l' := #[.val (.int p1), .val (.int p2), .val (.int p3), .val (.int p4), .val (.int p5), .val (.ref r5), .val (.ref r6), .val (.ref b1), .unset, .unset, .unset, .unset, .unset, .unset]) rfl ?_
  show Steps p.tables e below (T3.setTop (mkF m 138 #[.val (.int p1), .val (.int p2), .val (.int p3), .val (.int p4), .val (.int p5), .val (.ref r5), .val (.ref r6), .val (.ref b1), .unset, .unset, .unset, .unset, .unset, .unset] [])) _
  exact k
theorem own_s2 (l : Launch) (Z : State) (a0 : Array Value) (hw : own_HW a0 Z) {p : Program} {e : Env} {s : State} {m : MethodId} {args : Array Value} {below : List Frame} {meth : Method} {c : Code} (hx : p.tables.exec = Jvm.exec) (hby : c.code = code) (hml : c.maxLocals = 14) (hown : s.vm.findClass sN17 = some m.cls) (hZ : Z.Warmed39 s.vm) (n0 : Nat) (p1 : Int32) (p2 : Int32) (p3 : Int32) (p4 : Int32) (p5 : Int32) (r5 : Addr) (r6 : Addr) (r7 : Addr) (w_DEF : Addr) (w_BOOLEAN : Addr) (u2 : Addr) (w_LIST : Addr) (w_LELS : Addr) (w_kLEL : ClassId) (w_MIR : Addr) (w_NIL : Addr)  (h0 : Heap) {T0 : State} {L0 : List Loc} (X0 : Stand p l e room_1 s m args below meth c T0 L0 13 83) (e0 : T0.heap = h0) (N0 : Fr n0 L0) (O0 : Old Z n0 h0) (P1 : own_LS Z n0 w_DEF w_BOOLEAN h0 r6 u2 p5) (P2 : Sta Z Z.heap sN12 "BOOLEAN" sN15 (.ref w_BOOLEAN)) (P3 : Exa Z Z.heap w_BOOLEAN sN12) (P4 : Sta Z Z.heap sN14 "EMPTY_LIST" sN34 (.ref w_LIST)) (P5 : Exa Z Z.heap w_LIST sN7) (P6 : Fld Z Z.heap w_LIST sN7 "elements" sN4 (.ref w_LELS)) (P7 : Arv Z Z.heap w_LELS w_kLEL (.object sN1) (0 : Int32) [] .null) (P8 : Mir Z sN4 w_MIR) (P9 : Sta Z Z.heap sN14 "EMPTY" sN11 (.ref w_NIL)) (P10 : Exa Z Z.heap w_NIL sN1) (P11 : Exa Z h0 r7 sN2) (P12 : Fld Z h0 r7 sN2 "dataType" sN15 (.ref w_BOOLEAN)) (P13 : Fld Z h0 r7 sN2 "size" "I" (.int p4)) (P14 : Fld Z h0 r7 sN2 "parts" sN10 .null) :
    ∃ (r8 : Addr) (h1 : Heap) (T1 : State) (L1 : List Loc), Stand p l e room_1 s m args below meth c T1 L1 18 100 ∧ T1.heap = h1 ∧ Fr n0 L1 ∧ Old Z n0 h1 ∧ Exa Z h1 r8 sN2 ∧ Fld Z h1 r8 sN2 "dataType" sN15 (.ref w_BOOLEAN) ∧ Fld Z h1 r8 sN2 "size" "I" (.int p5) ∧ Fld Z h1 r8 sN2 "parts" sN10 .null ∧ Exa Z h1 r7 sN2 ∧ Fld Z h1 r7 sN2 "dataType" sN15 (.ref w_BOOLEAN) ∧ Fld Z h1 r7 sN2 "size" "I" (.int p4) ∧ Fld Z h1 r7 sN2 "parts" sN10 .null ∧ ∀ t, Steps p.tables e below (T1.setTop (mkF m 152 #[.val (.int p1), .val (.int p2), .val (.int p3), .val (.int p4), .val (.int p5), .val (.ref r5), .val (.ref r6), .val (.ref r7), .val (.ref r8), .unset, .unset, .unset, .unset, .unset] [])) t → Steps p.tables e below (T0.setTop (mkF m 138 #[.val (.int p1), .val (.int p2), .val (.int p3), .val (.int p4), .val (.int p5), .val (.ref r5), .val (.ref r6), .val (.ref r7), .unset, .unset, .unset, .unset, .unset, .unset] [])) t := by
  obtain ⟨T1, h1, X1, e1, E1, A1, D1, -, st1⟩ := newO X0 hx hZ hown (w64 hw) (w65 hw) (w66 hw) e0 (g := (mkF m 138 #[.val (.int p1), .val (.int p2), .val (.int p3), .val (.int p4), .val (.int p5), .val (.ref r5), .val (.ref r6), .val (.ref r7), .unset, .unset, .unset, .unset, .unset, .unset] [])) rfl (hb hby at_138) (by decide) (by decide)
  obtain ⟨b1, gq1⟩ : ∃ z, z = h0.size := ⟨_, rfl⟩
  rw [← gq1] at A1 D1 st1
  have g_b1 : n0 ≤ b1 := Nat.le_trans ((O0.1 ▸ O0.2.1) : n0 ≤ h0.size) (Nat.le_of_eq gq1.symm)
  have sz_b1 : h0.size ≤ b1 := Nat.le_trans (Keep.refl h0 []).1 (Nat.le_of_eq gq1.symm)
  have KK1 : Keep h0 h1 [] := (Keep.refl h0 []).ext E1
  have O1 := O0.ext E1
  have F_dataType_b1 : Fld Z h1 b1 sN2 "dataType" sN15 .null := D1 (Or.inr (w81 hw)) (ty := (.object sN12)) (by decide)
  have F_values_b1 : Fld Z h1 b1 sN2 "values" sN10 .null := D1 (Or.inr (w110 hw)) (ty := (.object sN3)) (by decide)
  have F_size_b1 : Fld Z h1 b1 sN2 "size" "I" (.int (0 : Int32)) := D1 (Or.inr (w124 hw)) (ty := .int) (by decide)
  have F_parts_b1 : Fld Z h1 b1 sN2 "parts" sN10 .null := D1 (Or.inr (w126 hw)) (ty := (.object sN3)) (by decide)
  obtain ⟨T2, X2, e2, st2⟩ := getS2 X1 hx hZ hown (host := "") (Or.inl (w67 hw)) Via.refl e1 (P2.ext O1.2) (g := (mkF m 142 #[.val (.int p1), .val (.int p2), .val (.int p3), .val (.int p4), .val (.int p5), .val (.ref r5), .val (.ref r6), .val (.ref r7), .unset, .unset, .unset, .unset, .unset, .unset] [(.ref b1), (.ref b1)])) rfl (hb hby at_142)
  obtain ⟨_, T3, L3, X3, hQ3, st3⟩ := own_cI X2 hx hZ hown rfl (w70 hw) (w71 hw) (w66 hw) (w72 hw) (own_B l Z a0 hw b1 r6 u2 p5 w_BOOLEAN w_LIST w_LELS w_kLEL w_MIR w_NIL h1 n0 O1 P3 P4 P5 P6 P7 P8 P9 P10 A1 F_dataType_b1 F_values_b1 F_size_b1 F_parts_b1 g_b1 (own_LS_keep P1 ((Keep.refl _ []).ext E1) nin0 fun _ _ => nin0)) e2 (hb hby at_147) hml pd_93 [(.ref w_BOOLEAN), (.ref r6)] [(.ref b1)] (g := (mkF m 147 #[.val (.int p1), .val (.int p2), .val (.int p3), .val (.int p4), .val (.int p5), .val (.ref r5), .val (.ref r6), .val (.ref r7), .unset, .unset, .unset, .unset, .unset, .unset] [(.ref r6), (.ref w_BOOLEAN), (.ref b1), (.ref b1)]))
  obtain ⟨rfl, N3q, K3, f3_0, f3_1, f3_2⟩ := hQ3
  have KK3 : Keep h0 T3.heap [] := KK1.trans K3 (allS (Or.inr sz_b1) all0)
  have O3 := O1.keep K3 (allS g_b1 all0)
  have N3 := Fr.app N0 N3q
  have nz4 : r7 ≠ b1 := (Nat.ne_of_lt (Nat.lt_of_lt_of_le P11.lt (Nat.le_of_eq gq1.symm)))
  refine ⟨b1, _, _, _, X3.more (by decide) (by decide), rfl, N3, O3, (A1.keep K3), f3_0, f3_1, f3_2, ((P11.ext E1).keep K3), ((P12.ext E1).keep K3 (ninS nz4 nin0)), ((P13.ext E1).keep K3 (ninS nz4 nin0)), ((P14.ext E1).keep K3 (ninS nz4 nin0)), fun t k => ?_⟩
  show Steps p.tables e below (T0.setTop (mkF m 138 #[.val (.int p1), .val (.int p2), .val (.int p3), .val (.int p4), .val (.int p5), .val (.ref r5), .val (.ref r6), .val (.ref r7), .unset, .unset, .unset, .unset, .unset, .unset] [])) _
  refine st1 _ ?_
  refine XS.dup X1.here hx rfl (hb hby at_141) rfl rfl ?_
  refine st2 _ ?_
  refine XS.aload X2.here hx rfl (hb hby at_145) rfl rfl ?_
  refine st3 _ ?_
  refine XS.astore X3.here hx rfl (hb hby at_150) rfl rfl (l' := #[.val (.int p1), .val (.int p2), .val (.int p3), .val (.int p4), .val (.int p5), .val (.ref r5), .val (.ref r6), .val (.ref r7), .val (.ref b1), .unset, .unset, .unset, .unset, .unset]) rfl ?_
  show Steps p.tables e below (T3.setTop (mkF m 152 #[.val (.int p1), .val (.int p2), .val (.int p3), .val (.int p4), .val (.int p5), .val (.ref r5), .val (.ref r6), .val (.ref r7), .val (.ref b1), .unset, .unset, .unset, .unset, .unset] [])) _
  exact k
def Q_rm7_5 (Z : State) (r1 : Addr) (r2 : Addr) (w_DEF : Addr) (w_kDEF : ClassId) (n0 : Nat) (h0 : Heap) (v : Option Value) (h : Heap) (L : List Loc) : Prop := ∃ b2_0 : Addr, ∃ kc2_0 : ClassId, v = none ∧ Fr n0 L ∧ Keep h0 h [r1] ∧ h0.size ≤ b2_0 ∧ Fld Z h r1 sN0 "elementData" sN4 (.ref b2_0) ∧ Exa Z h b2_0 sN4 ∧ Arv Z h b2_0 kc2_0 (.object sN1) (10 : Int32) [(.ref r2), .null, .null, .null, .null, .null, .null, .null, .null, .null] .null ∧ Ovr Z kc2_0 sN1 ∧ Fld Z h r1 sN0 "size" "I" (.int (1 : Int32)) ∧ Fld Z h r1 sN13 "modCount" "I" (.int (1 : Int32))
theorem rm7_5 (l : Launch) (Z : State) (a0 : Array Value) (hw : own_HW a0 Z) (r1 : Addr) (r2 : Addr) (w_DEF : Addr) (w_kDEF : ClassId) (h0 : Heap) (n0 : Nat) (O0 : Old Z n0 h0) (P1 : Arv Z Z.heap w_DEF w_kDEF (.object sN1) (0 : Int32) [] .null) (P2 : Fld Z h0 r1 sN0 "size" "I" (.int (0 : Int32))) (P3 : Fld Z h0 r1 sN0 "elementData" sN4 (.ref w_DEF)) (P4 : Sta Z Z.heap sN0 sN31 sN4 (.ref w_DEF)) (P5 : Fld Z h0 r1 sN13 "modCount" "I" (.int (1 : Int32))) (P6 : Exa Z h0 r1 sN0) (P7 : n0 ≤ r1) (P8 : Exa Z h0 r2 sN2) :
    own_Ct l Z yN3 jdk_38_method_24_code 4 none ({ frames := 3, cells := 1, slots := 10, locals := 41 } : Room) #[(.ref r1), (.ref r2), (.ref w_DEF), (.int (0 : Int32))] h0 (Q_rm7_5 Z r1 r2 w_DEF w_kDEF n0 h0) := by
  refine own_enter (own := sN0) rfl (plainFor_of_name pn_3) ?_
  intro p e s m below meth c s₁ X0 hx hby hml hown hnm hret hZ e0
  have N0 := Fr.nil n0
  obtain ⟨cl1, Ar1, -, Sr1, Nr1, -, -⟩ := id (P1.ext O0.2)
  obtain ⟨_, T2, L2, X2, hQ2, st2⟩ := own_cP X0 hx hZ hown (w47 hw) (w48 hw) (w50 hw) (w49 hw) (w2 hw) (w51 hw) P6 (rm8_0 l Z a0 hw r1 w_DEF w_kDEF h0 n0 O0 P2 P3 P1 P4 P5 P6 P7) e0 (hb hby d7_7) hml pd_33 [] [] (g := (mkF m 7 #[.val (.ref r1), .val (.ref r2), .val (.ref w_DEF), .val (.int (0 : Int32))] [(.ref r1)]))
  obtain ⟨b2_0, kc2_0, rfl, N2q, K2, ge_b2_0, f2_0, f2_1, f2_2, ov2_2, f2_3, f2_4⟩ := hQ2
  have g_b2_0 : n0 ≤ b2_0 := Nat.le_trans ((O0.1 ▸ O0.2.1) : n0 ≤ h0.size) ge_b2_0
  have sz_b2_0 : h0.size ≤ b2_0 := Nat.le_trans (Keep.refl h0 [r1]).1 ge_b2_0
  have KK2 : Keep h0 T2.heap [r1] := (Keep.refl h0 [r1]).trans K2 (allS (Or.inl (List.mem_of_getElem? (i := 0) rfl)) all0)
  have O2 := O0.keep K2 (allS P7 all0)
  have N2 := Fr.app N0 N2q
  obtain ⟨cl3, Ar3, qr3, Sr3, Nr3, Hr3, Gr3⟩ := id f2_2
  have hin3 : ¬ ((0 : Int32) < 0 ∨ cl3.slots.size ≤ ((0 : Int32) : Int32).toNatClampNeg) := inb_of Sr3 ⟨by decide, by decide⟩
  obtain ⟨T4, h4, X4, e4, W4, st4⟩ := stR X2 hx hZ rfl Ar3 (j := (0 : Int32)) hin3 rfl (Sto.ofV Ar3 qr3 ov2_2 (Ins.of_exa (P8.keep K2) (w248 hw))) (g := (mkF m 14 #[.val (.ref r1), .val (.ref r2), .val (.ref b2_0), .val (.int (0 : Int32))] [(.ref r2), (.int (0 : Int32)), (.ref b2_0)])) rfl rfl (hb hby d7_14)
  have V4 : Arv Z h4 b2_0 kc2_0 (.object sN1) (10 : Int32) [(.ref r2), .null, .null, .null, .null, .null, .null, .null, .null, .null] .null := Arv.set Ar3 qr3 Sr3 Nr3 Hr3 Gr3 rfl W4 0 rfl (Nat.le_of_ble_eq_true rfl)
  have KK4 : Keep h0 h4 [r1] := KK2.wr W4 (Or.inr sz_b2_0)
  have O4 := O2.wr W4 g_b2_0
  have N4 := Fr.snoc X4 N2 g_b2_0
  have nz5 : r1 ≠ b2_0 := (ne_exa (P6.keep K2) f2_1 (by decide))
  obtain ⟨T6, h6, X6, e6, W6, st6⟩ := putF X4 hx hZ hown (host := "") (Or.inl (w40 hw)) Via.refl e4 (f2_3.other W4 (Or.inl nz5)) ((P6.keep K2).wr W4) (Or.inl (w41 hw)) (w1 hw) (ty := .int) (by decide) rfl rfl (g := (mkF m 19 #[.val (.ref r1), .val (.ref r2), .val (.ref b2_0), .val (.int (0 : Int32))] [(.int (1 : Int32)), (.ref r1)])) rfl rfl (hb hby d7_19)
  have Fw6 := (f2_3.other W4 (Or.inl nz5)).same W6
  have KK6 : Keep h0 h6 [r1] := KK4.wr W6 (Or.inl (List.mem_of_getElem? (i := 0) rfl))
  have O6 := O4.wr W6 P7
  have N6 := Fr.snoc X6 N4 P7
  have fc7 := ((f2_0.other W4 (Or.inl nz5)).other W6 (Or.inr (slot_ne (Or.inl (w25 hw)) (Or.inl (w41 hw)) (by decide) (t := (.array (.object sN1))) (t' := .int) (by decide) (by decide))))
  have fc8 := ((f2_4.other W4 (Or.inl nz5)).other W6 (Or.inr (slot_ne (Or.inl (w22 hw)) (Or.inl (w41 hw)) (by decide) (t := .int) (t' := .int) (by decide) (by decide))))
  refine ⟨none, _, _, _, _, X6, (fun _ => rfl), ?_, by decide, by decide, fun fs hr => castTop (ef_7_RRRI m r1 r2 w_DEF (0 : Int32)) ?_⟩
  · show Q_rm7_5 Z r1 r2 w_DEF w_kDEF n0 h0 _ T6.heap _
    rw [e6]
    exact ⟨b2_0, kc2_0, rfl, N6, KK6, sz_b2_0, fc7, ((f2_1.wr W4).wr W6), (V4.other W6 nz5.symm), ov2_2, Fw6, fc8⟩
  · show Steps p.tables e below (s₁.setTop (mkF m 0 #[.val (.ref r1), .val (.ref r2), .val (.ref w_DEF), .val (.int (0 : Int32))] [])) _
    refine XS.iloadN X0.here hx rfl (hb hby d7_0) rfl ?_
    refine XS.aloadN X0.here hx rfl (hb hby d7_1) rfl rfl ?_
    refine X0.arraylength hx (by rw [e0]; exact Ar1.1) (State.isArrayOf_alike hZ.alike Ar1.2.1) (g := (mkF m 2 #[.val (.ref r1), .val (.ref r2), .val (.ref w_DEF), .val (.int (0 : Int32))] [(.ref w_DEF), (.int (0 : Int32))])) rfl rfl (hb hby d7_2) _ ?_
    rw [len_of Sr1 Nr1]
    refine XS.icmpNo X0.here hx rfl (hb hby d7_3) rfl (by decide) ?_
    refine XS.aloadN X0.here hx rfl (hb hby d7_6) rfl rfl ?_
    refine st2 _ ?_
    refine XS.astoreN X2.here hx rfl (hb hby d7_10) rfl rfl (l' := #[.val (.ref r1), .val (.ref r2), .val (.ref b2_0), .val (.int (0 : Int32))]) rfl ?_
    refine XS.aloadN X2.here hx rfl (hb hby d7_11) rfl rfl ?_
    show Steps p.tables e below (T2.setTop (mkF m 12 #[.val (.ref r1), .val (.ref r2), .val (.ref b2_0), .val (.int (0 : Int32))] [(.ref b2_0)])) _
    refine XS.iloadN X2.here hx rfl (hb hby d7_12) rfl ?_
    refine XS.aloadN X2.here hx rfl (hb hby d7_13) rfl rfl ?_
    refine st4 _ ?_
    refine XS.aloadN X4.here hx rfl (hb hby d7_15) rfl rfl ?_
    refine XS.iloadN X4.here hx rfl (hb hby d7_16) rfl ?_
    refine XS.iconst X4.here hx rfl (hb hby d7_17) ?_
    refine XS.iadd X4.here hx rfl (hb hby d7_18) rfl ?_
    show Steps p.tables e below (T4.setTop (mkF m 19 #[.val (.ref r1), .val (.ref r2), .val (.ref b2_0), .val (.int (0 : Int32))] [(.int ((0 : Int32) + (1 : Int32))), (.ref r1)])) _
    rw [fo_0]
    refine st6 _ ?_
    exact X6.returnOut hx hret (hb hby d7_22) hr
def Q_rm6_5 (Z : State) (r1 : Addr) (r2 : Addr) (w_DEF : Addr) (w_kDEF : ClassId) (n0 : Nat) (h0 : Heap) (v : Option Value) (h : Heap) (L : List Loc) : Prop := ∃ b7_0 : Addr, ∃ kc7_0 : ClassId, v = (some (.int (1 : Int32))) ∧ Fr n0 L ∧ Keep h0 h [r1] ∧ h0.size ≤ b7_0 ∧ Fld Z h r1 sN0 "elementData" sN4 (.ref b7_0) ∧ Exa Z h b7_0 sN4 ∧ Arv Z h b7_0 kc7_0 (.object sN1) (10 : Int32) [(.ref r2), .null, .null, .null, .null, .null, .null, .null, .null, .null] .null ∧ Ovr Z kc7_0 sN1 ∧ Fld Z h r1 sN0 "size" "I" (.int (1 : Int32)) ∧ Fld Z h r1 sN13 "modCount" "I" (.int (1 : Int32))
theorem rm6_5 (l : Launch) (Z : State) (a0 : Array Value) (hw : own_HW a0 Z) (r1 : Addr) (r2 : Addr) (w_DEF : Addr) (w_kDEF : ClassId) (h0 : Heap) (n0 : Nat) (O0 : Old Z n0 h0) (P1 : Fld Z h0 r1 sN13 "modCount" "I" (.int (0 : Int32))) (P2 : Exa Z h0 r1 sN0) (P3 : Fld Z h0 r1 sN0 "elementData" sN4 (.ref w_DEF)) (P4 : Fld Z h0 r1 sN0 "size" "I" (.int (0 : Int32))) (P5 : n0 ≤ r1) (P6 : Arv Z Z.heap w_DEF w_kDEF (.object sN1) (0 : Int32) [] .null) (P7 : Sta Z Z.heap sN0 sN31 sN4 (.ref w_DEF)) (P8 : Exa Z h0 r2 sN2) :
    own_Ct l Z yN1 jdk_38_method_25_code 2 (some .boolean) ({ frames := 4, cells := 1, slots := 10, locals := 56 } : Room) #[(.ref r1), (.ref r2)] h0 (Q_rm6_5 Z r1 r2 w_DEF w_kDEF n0 h0) := by
  refine own_enter (own := sN0) rfl (plainFor_of_name pn_3) ?_
  intro p e s m below meth c s₁ X0 hx hby hml hown hnm hret hZ e0
  have N0 := Fr.nil n0
  obtain ⟨T1, X1, e1, st1⟩ := getF X0 hx hZ hown (host := "") (Or.inl (w38 hw)) (Via.of (w39 hw)) e0 P1 (g := (mkF m 2 #[.val (.ref r1), .val (.ref r2)] [(.ref r1), (.ref r1)])) rfl rfl (hb hby d6_2)
  obtain ⟨T2, h2, X2, e2, W2, st2⟩ := putF X1 hx hZ hown (host := "") (Or.inl (w38 hw)) (Via.of (w39 hw)) e1 P1 P2 (Or.inl (w22 hw)) (w1 hw) (ty := .int) (by decide) rfl rfl (g := (mkF m 7 #[.val (.ref r1), .val (.ref r2)] [(.int (1 : Int32)), (.ref r1)])) rfl rfl (hb hby d6_7)
  have Fw2 := P1.same W2
  have KK2 : Keep h0 h2 [r1] := (Keep.refl h0 [r1]).wr W2 (Or.inl (List.mem_of_getElem? (i := 0) rfl))
  have O2 := O0.wr W2 P5
  have N2 := Fr.snoc X2 N0 P5
  have fc3 := (P3.other W2 (Or.inr (slot_ne (Or.inl (w25 hw)) (Or.inl (w22 hw)) (by decide) (t := (.array (.object sN1))) (t' := .int) (by decide) (by decide))))
  obtain ⟨T4, X4, e4, st4⟩ := getF X2 hx hZ hown (host := "") (Or.inl (w24 hw)) Via.refl e2 fc3 (g := (mkF m 13 #[.val (.ref r1), .val (.ref r2)] [(.ref r1), (.ref r2), (.ref r1)])) rfl rfl (hb hby d6_13)
  have fc5 := (P4.other W2 (Or.inr (slot_ne (Or.inl (w41 hw)) (Or.inl (w22 hw)) (by decide) (t := .int) (t' := .int) (by decide) (by decide))))
  obtain ⟨T6, X6, e6, st6⟩ := getF X4 hx hZ hown (host := "") (Or.inl (w40 hw)) Via.refl e4 fc5 (g := (mkF m 17 #[.val (.ref r1), .val (.ref r2)] [(.ref r1), (.ref w_DEF), (.ref r2), (.ref r1)])) rfl rfl (hb hby d6_17)
  obtain ⟨_, T7, L7, X7, hQ7, st7⟩ := own_cP X6 hx hZ hown (w42 hw) (w43 hw) (w45 hw) (w44 hw) (w2 hw) (w46 hw) (P2.wr W2) (rm7_5 l Z a0 hw r1 r2 w_DEF w_kDEF h2 n0 O2 P6 fc5 fc3 P7 Fw2 (P2.wr W2) P5 (P8.wr W2)) e6 (hb hby d6_20) hml pd_76 [(.ref r2), (.ref w_DEF), (.int (0 : Int32))] [] (g := (mkF m 20 #[.val (.ref r1), .val (.ref r2)] [(.int (0 : Int32)), (.ref w_DEF), (.ref r2), (.ref r1)]))
  obtain ⟨b7_0, kc7_0, rfl, N7q, K7, ge_b7_0, f7_0, f7_1, f7_2, ov7_2, f7_3, f7_4⟩ := hQ7
  have g_b7_0 : n0 ≤ b7_0 := Nat.le_trans ((O2.1 ▸ O2.2.1) : n0 ≤ h2.size) ge_b7_0
  have sz_b7_0 : h0.size ≤ b7_0 := Nat.le_trans KK2.1 ge_b7_0
  have KK7 : Keep h0 T7.heap [r1] := KK2.trans K7 (allS (Or.inl (List.mem_of_getElem? (i := 0) rfl)) all0)
  have O7 := O2.keep K7 (allS P5 all0)
  have N7 := Fr.app N2 N7q
  refine ⟨(some (.int (1 : Int32))), _, _, _, _, X7, (fun h => nomatch h), ?_, by decide, by decide, fun fs hr => castTop (ef_6_RR m r1 r2) ?_⟩
  · show Q_rm6_5 Z r1 r2 w_DEF w_kDEF n0 h0 _ T7.heap _
    exact ⟨b7_0, kc7_0, rfl, N7, KK7, sz_b7_0, f7_0, f7_1, f7_2, ov7_2, f7_3, f7_4⟩
  · show Steps p.tables e below (s₁.setTop (mkF m 0 #[.val (.ref r1), .val (.ref r2)] [])) _
    refine XS.aloadN X0.here hx rfl (hb hby d6_0) rfl rfl ?_
    refine XS.dup X0.here hx rfl (hb hby d6_1) rfl rfl ?_
    refine st1 _ ?_
    refine XS.iconst X1.here hx rfl (hb hby d6_5) ?_
    refine XS.iadd X1.here hx rfl (hb hby d6_6) rfl ?_
    show Steps p.tables e below (T1.setTop (mkF m 7 #[.val (.ref r1), .val (.ref r2)] [(.int ((0 : Int32) + (1 : Int32))), (.ref r1)])) _
    rw [fo_0]
    refine st2 _ ?_
    refine XS.aloadN X2.here hx rfl (hb hby d6_10) rfl rfl ?_
    refine XS.aloadN X2.here hx rfl (hb hby d6_11) rfl rfl ?_
    refine XS.aloadN X2.here hx rfl (hb hby d6_12) rfl rfl ?_
    refine st4 _ ?_
    refine XS.aloadN X4.here hx rfl (hb hby d6_16) rfl rfl ?_
    refine st6 _ ?_
    show Steps p.tables e below (T6.setTop (mkF m 20 #[.val (.ref r1), .val (.ref r2)] [(.int (0 : Int32)), (.ref w_DEF), (.ref r2), (.ref r1)])) _
    refine st7 _ ?_
    refine XS.iconst X7.here hx rfl (hb hby d6_23) ?_
    exact retN X7 hx (t := .boolean) hret (by simp) (hb hby d6_24) hr
def Q_rm7_6 (Z : State) (r1 : Addr) (r2 : Addr) (r3 : Addr) (r4 : Addr) (k_r3 : ClassId) (n0 : Nat) (h0 : Heap) (v : Option Value) (h : Heap) (L : List Loc) : Prop := v = none ∧ Fr n0 L ∧ Keep h0 h [r3, r1] ∧ Arv Z h r3 k_r3 (.object sN1) (10 : Int32) [(.ref r4), (.ref r2), .null, .null, .null, .null, .null, .null, .null, .null] .null ∧ Ovr Z k_r3 sN1 ∧ Fld Z h r1 sN13 "modCount" "I" (.int (2 : Int32)) ∧ Fld Z h r1 sN0 "elementData" sN4 (.ref r3) ∧ Fld Z h r1 sN0 "size" "I" (.int (2 : Int32))
theorem rm7_6 (l : Launch) (Z : State) (a0 : Array Value) (hw : own_HW a0 Z) (r1 : Addr) (r2 : Addr) (r3 : Addr) (r4 : Addr) (k_r3 : ClassId) (h0 : Heap) (n0 : Nat) (O0 : Old Z n0 h0) (P1 : Ovr Z k_r3 sN1) (P2 : Arv Z h0 r3 k_r3 (.object sN1) (10 : Int32) [(.ref r4), .null, .null, .null, .null, .null, .null, .null, .null, .null] .null) (P3 : Exa Z h0 r2 sN2) (P4 : n0 ≤ r3) (P5 : Fld Z h0 r1 sN13 "modCount" "I" (.int (2 : Int32))) (P6 : Exa Z h0 r1 sN0) (P7 : Exa Z h0 r3 sN4) (P8 : Fld Z h0 r1 sN0 "elementData" sN4 (.ref r3)) (P9 : Fld Z h0 r1 sN0 "size" "I" (.int (1 : Int32))) (P10 : n0 ≤ r1) :
    own_Ct l Z yN3 jdk_38_method_24_code 4 none ({ frames := 0, cells := 0, slots := 0, locals := 0 } : Room) #[(.ref r1), (.ref r2), (.ref r3), (.int (1 : Int32))] h0 (Q_rm7_6 Z r1 r2 r3 r4 k_r3 n0 h0) := by
  refine own_enter (own := sN0) rfl (plainFor_of_name pn_3) ?_
  intro p e s m below meth c s₁ X0 hx hby hml hown hnm hret hZ e0
  have N0 := Fr.nil n0
  obtain ⟨cl1, Ar1, -, Sr1, Nr1, -, -⟩ := id P2
  obtain ⟨cl2, Ar2, qr2, Sr2, Nr2, Hr2, Gr2⟩ := id P2
  have hin2 : ¬ ((1 : Int32) < 0 ∨ cl2.slots.size ≤ ((1 : Int32) : Int32).toNatClampNeg) := inb_of Sr2 ⟨by decide, by decide⟩
  obtain ⟨T3, h3, X3, e3, W3, st3⟩ := stR X0 hx hZ e0 Ar2 (j := (1 : Int32)) hin2 rfl (Sto.ofV Ar2 qr2 P1 (Ins.of_exa P3 (w248 hw))) (g := (mkF m 14 #[.val (.ref r1), .val (.ref r2), .val (.ref r3), .val (.int (1 : Int32))] [(.ref r2), (.int (1 : Int32)), (.ref r3)])) rfl rfl (hb hby d7_14)
  have V3 : Arv Z h3 r3 k_r3 (.object sN1) (10 : Int32) [(.ref r4), (.ref r2), .null, .null, .null, .null, .null, .null, .null, .null] .null := Arv.set Ar2 qr2 Sr2 Nr2 Hr2 Gr2 rfl W3 1 rfl (Nat.le_of_ble_eq_true rfl)
  have KK3 : Keep h0 h3 [r3, r1] := (Keep.refl h0 [r3, r1]).wr W3 (Or.inl (List.mem_of_getElem? (i := 0) rfl))
  have O3 := O0.wr W3 P4
  have N3 := Fr.snoc X3 N0 P4
  have nz4 : r1 ≠ r3 := (ne_exa P6 P7 (by decide))
  obtain ⟨T5, h5, X5, e5, W5, st5⟩ := putF X3 hx hZ hown (host := "") (Or.inl (w40 hw)) Via.refl e3 (P9.other W3 (Or.inl nz4)) (P6.wr W3) (Or.inl (w41 hw)) (w1 hw) (ty := .int) (by decide) rfl rfl (g := (mkF m 19 #[.val (.ref r1), .val (.ref r2), .val (.ref r3), .val (.int (1 : Int32))] [(.int (2 : Int32)), (.ref r1)])) rfl rfl (hb hby d7_19)
  have Fw5 := (P9.other W3 (Or.inl nz4)).same W5
  have KK5 : Keep h0 h5 [r3, r1] := KK3.wr W5 (Or.inl (List.mem_of_getElem? (i := 1) rfl))
  have O5 := O3.wr W5 P10
  have N5 := Fr.snoc X5 N3 P10
  have fc6 := ((P5.other W3 (Or.inl nz4)).other W5 (Or.inr (slot_ne (Or.inl (w22 hw)) (Or.inl (w41 hw)) (by decide) (t := .int) (t' := .int) (by decide) (by decide))))
  have fc7 := ((P8.other W3 (Or.inl nz4)).other W5 (Or.inr (slot_ne (Or.inl (w25 hw)) (Or.inl (w41 hw)) (by decide) (t := (.array (.object sN1))) (t' := .int) (by decide) (by decide))))
  refine ⟨none, _, _, _, _, X5, (fun _ => rfl), ?_, by decide, by decide, fun fs hr => castTop (ef_7_RRRI m r1 r2 r3 (1 : Int32)) ?_⟩
  · show Q_rm7_6 Z r1 r2 r3 r4 k_r3 n0 h0 _ T5.heap _
    rw [e5]
    exact ⟨rfl, N5, KK5, (V3.other W5 nz4.symm), P1, fc6, fc7, Fw5⟩
  · show Steps p.tables e below (s₁.setTop (mkF m 0 #[.val (.ref r1), .val (.ref r2), .val (.ref r3), .val (.int (1 : Int32))] [])) _
    refine XS.iloadN X0.here hx rfl (hb hby d7_0) rfl ?_
    refine XS.aloadN X0.here hx rfl (hb hby d7_1) rfl rfl ?_
    refine X0.arraylength hx (by rw [e0]; exact Ar1.1) (State.isArrayOf_alike hZ.alike Ar1.2.1) (g := (mkF m 2 #[.val (.ref r1), .val (.ref r2), .val (.ref r3), .val (.int (1 : Int32))] [(.ref r3), (.int (1 : Int32))])) rfl rfl (hb hby d7_2) _ ?_
    rw [len_of Sr1 Nr1]
    refine XS.icmpYes X0.here hx rfl (pc0 := 3) (pc' := 11) rfl (hb hby d7_3) rfl (by decide) (by decide) (by decide) ?_
    refine XS.aloadN X0.here hx rfl (hb hby d7_11) rfl rfl ?_
    refine XS.iloadN X0.here hx rfl (hb hby d7_12) rfl ?_
    refine XS.aloadN X0.here hx rfl (hb hby d7_13) rfl rfl ?_
    refine st3 _ ?_
    show Steps p.tables e below (T3.setTop (mkF m 15 #[.val (.ref r1), .val (.ref r2), .val (.ref r3), .val (.int (1 : Int32))] [])) _
    refine XS.aloadN X3.here hx rfl (hb hby d7_15) rfl rfl ?_
    refine XS.iloadN X3.here hx rfl (hb hby d7_16) rfl ?_
    refine XS.iconst X3.here hx rfl (hb hby d7_17) ?_
    refine XS.iadd X3.here hx rfl (hb hby d7_18) rfl ?_
    show Steps p.tables e below (T3.setTop (mkF m 19 #[.val (.ref r1), .val (.ref r2), .val (.ref r3), .val (.int (1 : Int32))] [(.int ((1 : Int32) + (1 : Int32))), (.ref r1)])) _
    rw [fo_1]
    refine st5 _ ?_
    exact X5.returnOut hx hret (hb hby d7_22) hr
def Q_rm6_6 (Z : State) (r1 : Addr) (r2 : Addr) (r3 : Addr) (r4 : Addr) (k_r3 : ClassId) (n0 : Nat) (h0 : Heap) (v : Option Value) (h : Heap) (L : List Loc) : Prop := v = (some (.int (1 : Int32))) ∧ Fr n0 L ∧ Keep h0 h [r1, r3] ∧ Arv Z h r3 k_r3 (.object sN1) (10 : Int32) [(.ref r4), (.ref r2), .null, .null, .null, .null, .null, .null, .null, .null] .null ∧ Ovr Z k_r3 sN1 ∧ Fld Z h r1 sN13 "modCount" "I" (.int (2 : Int32)) ∧ Fld Z h r1 sN0 "elementData" sN4 (.ref r3) ∧ Fld Z h r1 sN0 "size" "I" (.int (2 : Int32))
theorem rm6_6 (l : Launch) (Z : State) (a0 : Array Value) (hw : own_HW a0 Z) (r1 : Addr) (r2 : Addr) (r3 : Addr) (r4 : Addr) (k_r3 : ClassId) (h0 : Heap) (n0 : Nat) (O0 : Old Z n0 h0) (P1 : Fld Z h0 r1 sN13 "modCount" "I" (.int (1 : Int32))) (P2 : Exa Z h0 r1 sN0) (P3 : Fld Z h0 r1 sN0 "elementData" sN4 (.ref r3)) (P4 : Fld Z h0 r1 sN0 "size" "I" (.int (1 : Int32))) (P5 : n0 ≤ r1) (P6 : Ovr Z k_r3 sN1) (P7 : Arv Z h0 r3 k_r3 (.object sN1) (10 : Int32) [(.ref r4), .null, .null, .null, .null, .null, .null, .null, .null, .null] .null) (P8 : Exa Z h0 r3 sN4) (P9 : Exa Z h0 r2 sN2) (P10 : n0 ≤ r3) :
    own_Ct l Z yN1 jdk_38_method_25_code 2 (some .boolean) ({ frames := 1, cells := 0, slots := 0, locals := 15 } : Room) #[(.ref r1), (.ref r2)] h0 (Q_rm6_6 Z r1 r2 r3 r4 k_r3 n0 h0) := by
  refine own_enter (own := sN0) rfl (plainFor_of_name pn_3) ?_
  intro p e s m below meth c s₁ X0 hx hby hml hown hnm hret hZ e0
  have N0 := Fr.nil n0
  obtain ⟨T1, X1, e1, st1⟩ := getF X0 hx hZ hown (host := "") (Or.inl (w38 hw)) (Via.of (w39 hw)) e0 P1 (g := (mkF m 2 #[.val (.ref r1), .val (.ref r2)] [(.ref r1), (.ref r1)])) rfl rfl (hb hby d6_2)
  obtain ⟨T2, h2, X2, e2, W2, st2⟩ := putF X1 hx hZ hown (host := "") (Or.inl (w38 hw)) (Via.of (w39 hw)) e1 P1 P2 (Or.inl (w22 hw)) (w1 hw) (ty := .int) (by decide) rfl rfl (g := (mkF m 7 #[.val (.ref r1), .val (.ref r2)] [(.int (2 : Int32)), (.ref r1)])) rfl rfl (hb hby d6_7)
  have Fw2 := P1.same W2
  have KK2 : Keep h0 h2 [r1, r3] := (Keep.refl h0 [r1, r3]).wr W2 (Or.inl (List.mem_of_getElem? (i := 0) rfl))
  have O2 := O0.wr W2 P5
  have N2 := Fr.snoc X2 N0 P5
  have fc3 := (P3.other W2 (Or.inr (slot_ne (Or.inl (w25 hw)) (Or.inl (w22 hw)) (by decide) (t := (.array (.object sN1))) (t' := .int) (by decide) (by decide))))
  obtain ⟨T4, X4, e4, st4⟩ := getF X2 hx hZ hown (host := "") (Or.inl (w24 hw)) Via.refl e2 fc3 (g := (mkF m 13 #[.val (.ref r1), .val (.ref r2)] [(.ref r1), (.ref r2), (.ref r1)])) rfl rfl (hb hby d6_13)
  have fc5 := (P4.other W2 (Or.inr (slot_ne (Or.inl (w41 hw)) (Or.inl (w22 hw)) (by decide) (t := .int) (t' := .int) (by decide) (by decide))))
  obtain ⟨T6, X6, e6, st6⟩ := getF X4 hx hZ hown (host := "") (Or.inl (w40 hw)) Via.refl e4 fc5 (g := (mkF m 17 #[.val (.ref r1), .val (.ref r2)] [(.ref r1), (.ref r3), (.ref r2), (.ref r1)])) rfl rfl (hb hby d6_17)
  have nz7 : r3 ≠ r1 := (ne_exa P8 P2 (by decide))
  obtain ⟨_, T8, L8, X8, hQ8, st8⟩ := own_cP X6 hx hZ hown (w42 hw) (w43 hw) (w45 hw) (w44 hw) (w2 hw) (w46 hw) (P2.wr W2) (rm7_6 l Z a0 hw r1 r2 r3 r4 k_r3 h2 n0 O2 P6 (P7.other W2 nz7) (P9.wr W2) P10 Fw2 (P2.wr W2) (P8.wr W2) fc3 fc5 P5) e6 (hb hby d6_20) hml pd_76 [(.ref r2), (.ref r3), (.int (1 : Int32))] [] (g := (mkF m 20 #[.val (.ref r1), .val (.ref r2)] [(.int (1 : Int32)), (.ref r3), (.ref r2), (.ref r1)]))
  obtain ⟨rfl, N8q, K8, f8_0, ov8_0, f8_1, f8_2, f8_3⟩ := hQ8
  have KK8 : Keep h0 T8.heap [r1, r3] := KK2.trans K8 (allS (Or.inl (List.mem_of_getElem? (i := 1) rfl)) (allS (Or.inl (List.mem_of_getElem? (i := 0) rfl)) all0))
  have O8 := O2.keep K8 (allS P10 (allS P5 all0))
  have N8 := Fr.app N2 N8q
  refine ⟨(some (.int (1 : Int32))), _, _, _, _, X8, (fun h => nomatch h), ?_, by decide, by decide, fun fs hr => castTop (ef_6_RR m r1 r2) ?_⟩
  · show Q_rm6_6 Z r1 r2 r3 r4 k_r3 n0 h0 _ T8.heap _
    exact ⟨rfl, N8, KK8, f8_0, ov8_0, f8_1, f8_2, f8_3⟩
  · show Steps p.tables e below (s₁.setTop (mkF m 0 #[.val (.ref r1), .val (.ref r2)] [])) _
    refine XS.aloadN X0.here hx rfl (hb hby d6_0) rfl rfl ?_
    refine XS.dup X0.here hx rfl (hb hby d6_1) rfl rfl ?_
    refine st1 _ ?_
    refine XS.iconst X1.here hx rfl (hb hby d6_5) ?_
    refine XS.iadd X1.here hx rfl (hb hby d6_6) rfl ?_
    show Steps p.tables e below (T1.setTop (mkF m 7 #[.val (.ref r1), .val (.ref r2)] [(.int ((1 : Int32) + (1 : Int32))), (.ref r1)])) _
    rw [fo_1]
    refine st2 _ ?_
    refine XS.aloadN X2.here hx rfl (hb hby d6_10) rfl rfl ?_
    refine XS.aloadN X2.here hx rfl (hb hby d6_11) rfl rfl ?_
    refine XS.aloadN X2.here hx rfl (hb hby d6_12) rfl rfl ?_
    refine st4 _ ?_
    refine XS.aloadN X4.here hx rfl (hb hby d6_16) rfl rfl ?_
    refine st6 _ ?_
    show Steps p.tables e below (T6.setTop (mkF m 20 #[.val (.ref r1), .val (.ref r2)] [(.int (1 : Int32)), (.ref r3), (.ref r2), (.ref r1)])) _
    refine st8 _ ?_
    refine XS.iconst X8.here hx rfl (hb hby d6_23) ?_
    exact retN X8 hx (t := .boolean) hret (by simp) (hb hby d6_24) hr
theorem own_s3 (l : Launch) (Z : State) (a0 : Array Value) (hw : own_HW a0 Z) {p : Program} {e : Env} {s : State} {m : MethodId} {args : Array Value} {below : List Frame} {meth : Method} {c : Code} (hx : p.tables.exec = Jvm.exec) (hby : c.code = code) (hml : c.maxLocals = 14) (hown : s.vm.findClass sN17 = some m.cls) (hZ : Z.Warmed39 s.vm) (n0 : Nat) (p1 : Int32) (p2 : Int32) (p3 : Int32) (p4 : Int32) (p5 : Int32) (r5 : Addr) (r6 : Addr) (r7 : Addr) (r8 : Addr) (w_DEF : Addr) (w_kDEF : ClassId) (w_BOOLEAN : Addr) (w_LIST : Addr) (w_MIR : Addr)  (h0 : Heap) {T0 : State} {L0 : List Loc} (X0 : Stand p l e room_1 s m args below meth c T0 L0 18 100) (e0 : T0.heap = h0) (N0 : Fr n0 L0) (O0 : Old Z n0 h0) (P1 : Sta Z Z.heap sN0 sN31 sN4 (.ref w_DEF)) (P2 : Arv Z Z.heap w_DEF w_kDEF (.object sN1) (0 : Int32) [] .null) (P3 : Exa Z h0 r7 sN2) (P4 : Exa Z h0 r8 sN2) (P5 : Sta Z Z.heap sN12 "BOOLEAN" sN15 (.ref w_BOOLEAN)) (P6 : Fld Z h0 r7 sN2 "size" "I" (.int p4)) (P7 : Fld Z h0 r8 sN2 "size" "I" (.int p5)) (P8 : Sta Z Z.heap sN14 "EMPTY_LIST" sN34 (.ref w_LIST)) (P9 : Mir Z sN4 w_MIR) (P10 : Fld Z h0 r7 sN2 "dataType" sN15 (.ref w_BOOLEAN)) (P11 : Fld Z h0 r7 sN2 "parts" sN10 .null) (P12 : Fld Z h0 r8 sN2 "dataType" sN15 (.ref w_BOOLEAN)) (P13 : Fld Z h0 r8 sN2 "parts" sN10 .null) :
    ∃ (r9 r10 : Addr) (h1 : Heap) (T1 : State) (L1 : List Loc), Stand p l e room_1 s m args below meth c T1 L1 26 131 ∧ T1.heap = h1 ∧ Fr n0 L1 ∧ Old Z n0 h1 ∧ Exa Z h1 r7 sN2 ∧ Fld Z h1 r7 sN2 "size" "I" (.int p4) ∧ Exa Z h1 r8 sN2 ∧ Fld Z h1 r8 sN2 "size" "I" (.int p5) ∧ Exa Z h1 r10 sN2 ∧ Fld Z h1 r10 sN2 "size" "I" (.int (p4 + p5)) ∧ ∀ t, Steps p.tables e below (T1.setTop (mkF m 187 #[.val (.int p1), .val (.int p2), .val (.int p3), .val (.int p4), .val (.int p5), .val (.ref r5), .val (.ref r6), .val (.ref r7), .val (.ref r8), .val (.ref r9), .val (.ref r10), .unset, .unset, .unset] [])) t → Steps p.tables e below (T0.setTop (mkF m 152 #[.val (.int p1), .val (.int p2), .val (.int p3), .val (.int p4), .val (.int p5), .val (.ref r5), .val (.ref r6), .val (.ref r7), .val (.ref r8), .unset, .unset, .unset, .unset, .unset] [])) t := by
  obtain ⟨T1, h1, X1, e1, E1, A1, D1, -, st1⟩ := newO X0 hx hZ hown (w0 hw) (w1 hw) (w2 hw) e0 (g := (mkF m 152 #[.val (.int p1), .val (.int p2), .val (.int p3), .val (.int p4), .val (.int p5), .val (.ref r5), .val (.ref r6), .val (.ref r7), .val (.ref r8), .unset, .unset, .unset, .unset, .unset] [])) rfl (hb hby at_152) (by decide) (by decide)
  obtain ⟨b1, gq1⟩ : ∃ z, z = h0.size := ⟨_, rfl⟩
  rw [← gq1] at A1 D1 st1
  have g_b1 : n0 ≤ b1 := Nat.le_trans ((O0.1 ▸ O0.2.1) : n0 ≤ h0.size) (Nat.le_of_eq gq1.symm)
  have sz_b1 : h0.size ≤ b1 := Nat.le_trans (Keep.refl h0 []).1 (Nat.le_of_eq gq1.symm)
  have KK1 : Keep h0 h1 [] := (Keep.refl h0 []).ext E1
  have O1 := O0.ext E1
  have F_modCount_b1 : Fld Z h1 b1 sN13 "modCount" "I" (.int (0 : Int32)) := D1 (Or.inl (w22 hw)) (ty := .int) (by decide)
  have F_elementData_b1 : Fld Z h1 b1 sN0 "elementData" sN4 .null := D1 (Or.inl (w25 hw)) (ty := (.array (.object sN1))) (by decide)
  have F_size_b1 : Fld Z h1 b1 sN0 "size" "I" (.int (0 : Int32)) := D1 (Or.inl (w41 hw)) (ty := .int) (by decide)
  obtain ⟨_, T2, L2, X2, hQ2, st2⟩ := own_cI X1 hx hZ hown rfl (w3 hw) (w4 hw) (w2 hw) (w5 hw) (rm1_0 l Z a0 hw b1 w_DEF h1 n0 O1 A1 F_modCount_b1 F_elementData_b1 F_size_b1 g_b1 P1) e1 (hb hby at_156) hml pd_36 [] [(.ref b1)] (g := (mkF m 156 #[.val (.int p1), .val (.int p2), .val (.int p3), .val (.int p4), .val (.int p5), .val (.ref r5), .val (.ref r6), .val (.ref r7), .val (.ref r8), .unset, .unset, .unset, .unset, .unset] [(.ref b1), (.ref b1)]))
  obtain ⟨rfl, N2q, K2, f2_0, f2_1, f2_2⟩ := hQ2
  have KK2 : Keep h0 T2.heap [] := KK1.trans K2 (allS (Or.inr sz_b1) all0)
  have O2 := O1.keep K2 (allS g_b1 all0)
  have N2 := Fr.app N0 N2q
  obtain ⟨_, T3, L3, X3, hQ3, st3⟩ := own_cV X2 hx hZ hown (notFace_of_selects (args := #[]) (mvT hZ (w36 hw))) (w33 hw) (w34 hw) (w36 hw) (w35 hw) (w2 hw) (w37 hw) (A1.keep K2) (rm6_5 l Z a0 hw b1 r7 w_DEF w_kDEF T2.heap n0 O2 f2_0 (A1.keep K2) f2_1 f2_2 g_b1 P2 P1 ((P3.ext E1).keep K2)) rfl (hb hby at_165) hml pd_78 [(.ref r7)] [] (g := (mkF m 165 #[.val (.int p1), .val (.int p2), .val (.int p3), .val (.int p4), .val (.int p5), .val (.ref r5), .val (.ref r6), .val (.ref r7), .val (.ref r8), .val (.ref b1), .unset, .unset, .unset, .unset] [(.ref r7), (.ref b1)]))
  obtain ⟨b3_0, kc3_0, rfl, N3q, K3, ge_b3_0, f3_0, f3_1, f3_2, ov3_2, f3_3, f3_4⟩ := hQ3
  have g_b3_0 : n0 ≤ b3_0 := Nat.le_trans ((O2.1 ▸ O2.2.1) : n0 ≤ T2.heap.size) ge_b3_0
  have sz_b3_0 : h0.size ≤ b3_0 := Nat.le_trans KK2.1 ge_b3_0
  have KK3 : Keep h0 T3.heap [] := KK2.trans K3 (allS (Or.inr sz_b1) all0)
  have O3 := O2.keep K3 (allS g_b1 all0)
  have N3 := Fr.app N2 N3q
  obtain ⟨_, T4, L4, X4, hQ4, st4⟩ := own_cV X3 hx hZ hown (notFace_of_selects (args := #[]) (mvT hZ (w36 hw))) (w33 hw) (w34 hw) (w36 hw) (w35 hw) (w2 hw) (w37 hw) ((A1.keep K2).keep K3) (rm6_6 l Z a0 hw b1 r8 b3_0 r7 kc3_0 T3.heap n0 O3 f3_4 ((A1.keep K2).keep K3) f3_0 f3_3 g_b1 ov3_2 f3_2 f3_1 (((P4.ext E1).keep K2).keep K3) g_b3_0) rfl (hb hby at_173) hml pd_78 [(.ref r8)] [] (g := (mkF m 173 #[.val (.int p1), .val (.int p2), .val (.int p3), .val (.int p4), .val (.int p5), .val (.ref r5), .val (.ref r6), .val (.ref r7), .val (.ref r8), .val (.ref b1), .unset, .unset, .unset, .unset] [(.ref r8), (.ref b1)]))
  obtain ⟨rfl, N4q, K4, f4_0, ov4_0, f4_1, f4_2, f4_3⟩ := hQ4
  have KK4 : Keep h0 T4.heap [] := KK3.trans K4 (allS (Or.inr sz_b1) (allS (Or.inr sz_b3_0) all0))
  have O4 := O3.keep K4 (allS g_b1 (allS g_b3_0 all0))
  have N4 := Fr.app N3 N4q
  obtain ⟨T5, X5, e5, st5⟩ := getS2 X4 hx hZ hown (host := "") (Or.inl (w67 hw)) Via.refl rfl (P5.ext O4.2) (g := (mkF m 177 #[.val (.int p1), .val (.int p2), .val (.int p3), .val (.int p4), .val (.int p5), .val (.ref r5), .val (.ref r6), .val (.ref r7), .val (.ref r8), .val (.ref b1), .unset, .unset, .unset, .unset] [])) rfl (hb hby at_177)
  have nz6 : r7 ≠ b1 := (ne_exa (P3.ext E1) A1 (by decide))
  have nz7 : r7 ≠ b3_0 := (ne_exa (((P3.ext E1).keep K2).keep K3) f3_1 (by decide))
  have fc8 := ((((P6.ext E1).keep K2 (ninS nz6 nin0)).keep K3 (ninS nz6 nin0)).keep K4 (ninS nz6 (ninS nz7 nin0)))
  have nz9 : r8 ≠ b1 := (ne_exa (P4.ext E1) A1 (by decide))
  have nz10 : r8 ≠ b3_0 := (ne_exa (((P4.ext E1).keep K2).keep K3) f3_1 (by decide))
  have fc11 := ((((P7.ext E1).keep K2 (ninS nz9 nin0)).keep K3 (ninS nz9 nin0)).keep K4 (ninS nz9 (ninS nz10 nin0)))
  have fc13 := ((((P3.ext E1).keep K2).keep K3).keep K4)
  have fc14 := ((((P10.ext E1).keep K2 (ninS nz6 nin0)).keep K3 (ninS nz6 nin0)).keep K4 (ninS nz6 (ninS nz7 nin0)))
  have fc15 := ((((P11.ext E1).keep K2 (ninS nz6 nin0)).keep K3 (ninS nz6 nin0)).keep K4 (ninS nz6 (ninS nz7 nin0)))
  have fc16 := ((((P4.ext E1).keep K2).keep K3).keep K4)
  have fc17 := ((((P12.ext E1).keep K2 (ninS nz9 nin0)).keep K3 (ninS nz9 nin0)).keep K4 (ninS nz9 (ninS nz10 nin0)))
  have fc18 := ((((P13.ext E1).keep K2 (ninS nz9 nin0)).keep K3 (ninS nz9 nin0)).keep K4 (ninS nz9 (ninS nz10 nin0)))
  obtain ⟨_, T12, L12, X12, hQ12, st12⟩ := own_cS X5 hx hZ hown (w249 hw) (w250 hw) (w66 hw) (w251 hw) (own_J l Z a0 hw b1 b3_0 r7 r8 kc3_0 p4 p5 w_BOOLEAN w_LIST w_MIR T4.heap n0 O4 P8 P9 (((A1.keep K2).keep K3).keep K4) f4_3 f4_1 f4_2 f4_0 (f3_1.keep K4) fc13 fc14 fc15 fc8 fc16 fc17 fc18 fc11) e5 (hb hby at_182) hml pd_94 [(.ref w_BOOLEAN), (.ref b1)] [] (g := (mkF m 182 #[.val (.int p1), .val (.int p2), .val (.int p3), .val (.int p4), .val (.int p5), .val (.ref r5), .val (.ref r6), .val (.ref r7), .val (.ref r8), .val (.ref b1), .unset, .unset, .unset, .unset] [(.ref b1), (.ref w_BOOLEAN)]))
  obtain ⟨lb12, rfl, N12q, K12, f12_0, f12_1⟩ := hQ12
  have KK12 : Keep h0 T12.heap [] := KK4.trans K12 all0
  have O12 := O4.keep K12 all0
  have N12 := Fr.app N4 N12q
  refine ⟨b1, lb12, _, _, _, X12.more (by decide) (by decide), rfl, N12, O12, (fc13.keep K12), (fc8.keep K12 nin0), (fc16.keep K12), (fc11.keep K12 nin0), f12_0, f12_1, fun t k => ?_⟩
  show Steps p.tables e below (T0.setTop (mkF m 152 #[.val (.int p1), .val (.int p2), .val (.int p3), .val (.int p4), .val (.int p5), .val (.ref r5), .val (.ref r6), .val (.ref r7), .val (.ref r8), .unset, .unset, .unset, .unset, .unset] [])) _
  refine st1 _ ?_
  refine XS.dup X1.here hx rfl (hb hby at_155) rfl rfl ?_
  refine st2 _ ?_
  refine XS.astore X2.here hx rfl (hb hby at_159) rfl rfl (l' := #[.val (.int p1), .val (.int p2), .val (.int p3), .val (.int p4), .val (.int p5), .val (.ref r5), .val (.ref r6), .val (.ref r7), .val (.ref r8), .val (.ref b1), .unset, .unset, .unset, .unset]) rfl ?_
  refine XS.aload X2.here hx rfl (hb hby at_161) rfl rfl ?_
  refine XS.aload X2.here hx rfl (hb hby at_163) rfl rfl ?_
  refine st3 _ ?_
  refine XS.pop X3.here hx rfl (hb hby at_168) rfl rfl ?_
  show Steps p.tables e below (T3.setTop (mkF m 169 #[.val (.int p1), .val (.int p2), .val (.int p3), .val (.int p4), .val (.int p5), .val (.ref r5), .val (.ref r6), .val (.ref r7), .val (.ref r8), .val (.ref b1), .unset, .unset, .unset, .unset] [])) _
  refine XS.aload X3.here hx rfl (hb hby at_169) rfl rfl ?_
  refine XS.aload X3.here hx rfl (hb hby at_171) rfl rfl ?_
  refine st4 _ ?_
  refine XS.pop X4.here hx rfl (hb hby at_176) rfl rfl ?_
  refine st5 _ ?_
  refine XS.aload X5.here hx rfl (hb hby at_180) rfl rfl ?_
  refine st12 _ ?_
  refine XS.astore X12.here hx rfl (hb hby at_185) rfl rfl (l' := #[.val (.int p1), .val (.int p2), .val (.int p3), .val (.int p4), .val (.int p5), .val (.ref r5), .val (.ref r6), .val (.ref r7), .val (.ref r8), .val (.ref b1), .val (.ref lb12), .unset, .unset, .unset]) rfl ?_
  show Steps p.tables e below (T12.setTop (mkF m 187 #[.val (.int p1), .val (.int p2), .val (.int p3), .val (.int p4), .val (.int p5), .val (.ref r5), .val (.ref r6), .val (.ref r7), .val (.ref r8), .val (.ref b1), .val (.ref lb12), .unset, .unset, .unset] [])) _
  exact k
theorem rm41_2 (l : Launch) (Z : State) (a0 : Array Value) (hw : own_HW a0 Z) (r1 : Addr) (p2 : Int32) (h0 : Heap) (n0 : Nat) (O0 : Old Z n0 h0) (P1 : Fld Z h0 r1 sN2 "size" "I" (.int p2)) (P2 : p2 = (0 : Int32)) :
    own_Ct l Z yN7 prog_167_method_8_code 1 (some .boolean) ({ frames := 0, cells := 0, slots := 0, locals := 0 } : Room) #[(.ref r1)] h0 (own_QP (some (.int (1 : Int32))) n0 h0) := by
  refine own_enter (own := sN2) rfl (plainFor_of_name pn_23) ?_
  intro p e s m below meth c s₁ X0 hx hby hml hown hnm hret hZ e0
  have N0 := Fr.nil n0
  obtain ⟨T1, X1, e1, st1⟩ := getF X0 hx hZ hown (host := "") (Or.inl (w123 hw)) Via.refl e0 P1 (g := (mkF m 1 #[.val (.ref r1)] [(.ref r1)])) rfl rfl (hb hby d41_1)
  refine ⟨(some (.int (1 : Int32))), _, _, _, _, X1, (fun h => nomatch h), ?_, by decide, by decide, fun fs hr => castTop (ef_41_R m r1) ?_⟩
  · show own_QP (some (.int (1 : Int32))) n0 h0 _ T1.heap _
    rw [e1]
    exact ⟨rfl, N0, rfl⟩
  · show Steps p.tables e below (s₁.setTop (mkF m 0 #[.val (.ref r1)] [])) _
    refine XS.aloadN X0.here hx rfl (hb hby d41_0) rfl rfl ?_
    refine st1 _ ?_
    refine XS.ifNo X1.here hx rfl (hb hby d41_4) rfl ((if0 _ _).trans (teq P2).2) ?_
    refine XS.iconst X1.here hx rfl (hb hby d41_7) ?_
    refine XS.goto X1.here hx rfl (pc0 := 8) (pc' := 12) rfl (hb hby d41_8) (by decide) (by decide) ?_
    exact retN X1 hx (t := .boolean) hret (by simp) (hb hby d41_12) hr
theorem own_c00 (l : Launch) (Z : State) (a0 : Array Value) (hw : own_HW a0 Z) {p : Program} {e : Env} {s : State} {m : MethodId} {args : Array Value} {below : List Frame} {meth : Method} {c : Code} (hx : p.tables.exec = Jvm.exec) (hby : c.code = code) (hml : c.maxLocals = 14) (hown : s.vm.findClass sN17 = some m.cls) (hZ : Z.Warmed39 s.vm) (n0 : Nat) (p1 : Int32) (p2 : Int32) (p3 : Int32) (p4 : Int32) (p5 : Int32) (r5 : Addr) (r6 : Addr) (r7 : Addr) (r8 : Addr) (r9 : Addr) (r10 : Addr) (p6 : Int32) (hret : meth.sig.returnType = some .boolean) (h0 : Heap) {T0 : State} {L0 : List Loc} (X0 : Stand p l e room_1 s m args below meth c T0 L0 26 131) (e0 : T0.heap = h0) (N0 : Fr n0 L0) (O0 : Old Z n0 h0) (P1 : Exa Z h0 r7 sN2) (P2 : Fld Z h0 r7 sN2 "size" "I" (.int p4)) (P3 : p4 = (0 : Int32)) (P4 : Exa Z h0 r8 sN2) (P5 : Fld Z h0 r8 sN2 "size" "I" (.int p5)) (P6 : p5 = (0 : Int32)) (P7 : Exa Z h0 r10 sN2) (P8 : Fld Z h0 r10 sN2 "size" "I" (.int p6)) (P9 : p6 = (0 : Int32)) :
    ∃ (T1 : State) (L1 : List Loc), Stand p l e room_1 s m args below meth c T1 L1 26 131 ∧ Fr n0 L1 ∧ ∀ fs, (∀ (f : JFrame) (acts : List Action), f.method = m → f.locked = none → f.entered = [] → (doReturn e (T1.setTop f) acts (some (.int (1 : Int32)))).1 = T1.setFrames fs) → Steps p.tables e below (T0.setTop (mkF m 187 #[.val (.int p1), .val (.int p2), .val (.int p3), .val (.int p4), .val (.int p5), .val (.ref r5), .val (.ref r6), .val (.ref r7), .val (.ref r8), .val (.ref r9), .val (.ref r10), .unset, .unset, .unset] [])) (T1.setFrames fs) := by
  obtain ⟨_, T1, L1, X1, hQ1, st1⟩ := own_cV X0 hx hZ hown (notFace_of_selects (args := #[]) (mvT hZ (w307 hw))) (w333 hw) (w305 hw) (w307 hw) (w306 hw) (w66 hw) (w308 hw) P1 (rm41_2 l Z a0 hw r7 p4 h0 n0 O0 P2 P3) e0 (hb hby at_189) hml pd_5 [] [] (g := (mkF m 189 #[.val (.int p1), .val (.int p2), .val (.int p3), .val (.int p4), .val (.int p5), .val (.ref r5), .val (.ref r6), .val (.ref r7), .val (.ref r8), .val (.ref r9), .val (.ref r10), .unset, .unset, .unset] [(.ref r7)]))
  obtain ⟨rfl, N1q, e1⟩ := hQ1
  have N1 := Fr.app N0 N1q
  obtain ⟨_, T2, L2, X2, hQ2, st2⟩ := own_cV X1 hx hZ hown (notFace_of_selects (args := #[]) (mvT hZ (w307 hw))) (w333 hw) (w305 hw) (w307 hw) (w306 hw) (w66 hw) (w308 hw) P4 (rm41_2 l Z a0 hw r8 p5 h0 n0 O0 P5 P6) e1 (hb hby at_213) hml pd_5 [] [] (g := (mkF m 213 #[.val (.int p1), .val (.int p2), .val (.int p3), .val (.int p4), .val (.int p5), .val (.ref r5), .val (.ref r6), .val (.ref r7), .val (.ref r8), .val (.ref r9), .val (.ref r10), .val (.int (1 : Int32)), .unset, .unset] [(.ref r8)]))
  obtain ⟨rfl, N2q, e2⟩ := hQ2
  have N2 := Fr.app N1 N2q
  obtain ⟨_, T3, L3, X3, hQ3, st3⟩ := own_cV X2 hx hZ hown (notFace_of_selects (args := #[]) (mvT hZ (w307 hw))) (w333 hw) (w305 hw) (w307 hw) (w306 hw) (w66 hw) (w308 hw) P7 (rm41_2 l Z a0 hw r10 p6 h0 n0 O0 P8 P9) e2 (hb hby at_238) hml pd_5 [] [] (g := (mkF m 238 #[.val (.int p1), .val (.int p2), .val (.int p3), .val (.int p4), .val (.int p5), .val (.ref r5), .val (.ref r6), .val (.ref r7), .val (.ref r8), .val (.ref r9), .val (.ref r10), .val (.int (1 : Int32)), .val (.int (1 : Int32)), .unset] [(.ref r10)]))
  obtain ⟨rfl, N3q, e3⟩ := hQ3
  have N3 := Fr.app N2 N3q
  refine ⟨_, _, X3, N3, fun fs hr => ?_⟩
  show Steps p.tables e below (T0.setTop (mkF m 187 #[.val (.int p1), .val (.int p2), .val (.int p3), .val (.int p4), .val (.int p5), .val (.ref r5), .val (.ref r6), .val (.ref r7), .val (.ref r8), .val (.ref r9), .val (.ref r10), .unset, .unset, .unset] [])) _
  refine XS.aload X0.here hx rfl (hb hby at_187) rfl rfl ?_
  refine st1 _ ?_
  refine XS.iloadN X1.here hx rfl (hb hby at_192) rfl ?_
  refine XS.ifNo X1.here hx rfl (hb hby at_193) rfl ((if0 _ _).trans (teq P3).2) ?_
  refine XS.iconst X1.here hx rfl (hb hby at_196) ?_
  refine XS.goto X1.here hx rfl (pc0 := 197) (pc' := 201) rfl (hb hby at_197) (by decide) (by decide) ?_
  refine XS.icmpNo X1.here hx rfl (hb hby at_201) rfl (by decide) ?_
  refine XS.iconst X1.here hx rfl (hb hby at_204) ?_
  show Steps p.tables e below (T1.setTop (mkF m 205 #[.val (.int p1), .val (.int p2), .val (.int p3), .val (.int p4), .val (.int p5), .val (.ref r5), .val (.ref r6), .val (.ref r7), .val (.ref r8), .val (.ref r9), .val (.ref r10), .unset, .unset, .unset] [(.int (1 : Int32))])) _
  refine XS.goto X1.here hx rfl (pc0 := 205) (pc' := 209) rfl (hb hby at_205) (by decide) (by decide) ?_
  refine XS.istore X1.here hx rfl (hb hby at_209) rfl (l' := #[.val (.int p1), .val (.int p2), .val (.int p3), .val (.int p4), .val (.int p5), .val (.ref r5), .val (.ref r6), .val (.ref r7), .val (.ref r8), .val (.ref r9), .val (.ref r10), .val (.int (1 : Int32)), .unset, .unset]) rfl ?_
  refine XS.aload X1.here hx rfl (hb hby at_211) rfl rfl ?_
  refine st2 _ ?_
  refine XS.iload X2.here hx rfl (hb hby at_216) rfl ?_
  refine XS.ifNo X2.here hx rfl (hb hby at_218) rfl ((if0 _ _).trans (teq P6).2) ?_
  refine XS.iconst X2.here hx rfl (hb hby at_221) ?_
  refine XS.goto X2.here hx rfl (pc0 := 222) (pc' := 226) rfl (hb hby at_222) (by decide) (by decide) ?_
  show Steps p.tables e below (T2.setTop (mkF m 226 #[.val (.int p1), .val (.int p2), .val (.int p3), .val (.int p4), .val (.int p5), .val (.ref r5), .val (.ref r6), .val (.ref r7), .val (.ref r8), .val (.ref r9), .val (.ref r10), .val (.int (1 : Int32)), .unset, .unset] [(.int (1 : Int32)), (.int (1 : Int32))])) _
  refine XS.icmpNo X2.here hx rfl (hb hby at_226) rfl (by decide) ?_
  refine XS.iconst X2.here hx rfl (hb hby at_229) ?_
  refine XS.goto X2.here hx rfl (pc0 := 230) (pc' := 234) rfl (hb hby at_230) (by decide) (by decide) ?_
  refine XS.istore X2.here hx rfl (hb hby at_234) rfl (l' := #[.val (.int p1), .val (.int p2), .val (.int p3), .val (.int p4), .val (.int p5), .val (.ref r5), .val (.ref r6), .val (.ref r7), .val (.ref r8), .val (.ref r9), .val (.ref r10), .val (.int (1 : Int32)), .val (.int (1 : Int32)), .unset]) rfl ?_
  refine XS.aload X2.here hx rfl (hb hby at_236) rfl rfl ?_
  refine st3 _ ?_
  refine XS.iloadN X3.here hx rfl (hb hby at_241) rfl ?_
  refine XS.ifNo X3.here hx rfl (hb hby at_242) rfl ((if0 _ _).trans (teq P3).2) ?_
  show Steps p.tables e below (T3.setTop (mkF m 245 #[.val (.int p1), .val (.int p2), .val (.int p3), .val (.int p4), .val (.int p5), .val (.ref r5), .val (.ref r6), .val (.ref r7), .val (.ref r8), .val (.ref r9), .val (.ref r10), .val (.int (1 : Int32)), .val (.int (1 : Int32)), .unset] [(.int (1 : Int32))])) _
  refine XS.iload X3.here hx rfl (hb hby at_245) rfl ?_
  refine XS.ifNo X3.here hx rfl (hb hby at_247) rfl ((if0 _ _).trans (teq P6).2) ?_
  refine XS.iconst X3.here hx rfl (hb hby at_250) ?_
  refine XS.goto X3.here hx rfl (pc0 := 251) (pc' := 255) rfl (hb hby at_251) (by decide) (by decide) ?_
  refine XS.icmpNo X3.here hx rfl (hb hby at_255) rfl (by decide) ?_
  refine XS.iconst X3.here hx rfl (hb hby at_258) ?_
  refine XS.goto X3.here hx rfl (pc0 := 259) (pc' := 263) rfl (hb hby at_259) (by decide) (by decide) ?_
  refine XS.istore X3.here hx rfl (hb hby at_263) rfl (l' := #[.val (.int p1), .val (.int p2), .val (.int p3), .val (.int p4), .val (.int p5), .val (.ref r5), .val (.ref r6), .val (.ref r7), .val (.ref r8), .val (.ref r9), .val (.ref r10), .val (.int (1 : Int32)), .val (.int (1 : Int32)), .val (.int (1 : Int32))]) rfl ?_
  show Steps p.tables e below (T3.setTop (mkF m 265 #[.val (.int p1), .val (.int p2), .val (.int p3), .val (.int p4), .val (.int p5), .val (.ref r5), .val (.ref r6), .val (.ref r7), .val (.ref r8), .val (.ref r9), .val (.ref r10), .val (.int (1 : Int32)), .val (.int (1 : Int32)), .val (.int (1 : Int32))] [])) _
  refine XS.iload X3.here hx rfl (hb hby at_265) rfl ?_
  refine XS.ifNo X3.here hx rfl (hb hby at_267) rfl (by decide) ?_
  refine XS.iload X3.here hx rfl (hb hby at_270) rfl ?_
  refine XS.ifNo X3.here hx rfl (hb hby at_272) rfl (by decide) ?_
  refine XS.iload X3.here hx rfl (hb hby at_275) rfl ?_
  refine XS.ifNo X3.here hx rfl (hb hby at_277) rfl (by decide) ?_
  refine XS.iconst X3.here hx rfl (hb hby at_280) ?_
  refine XS.goto X3.here hx rfl (pc0 := 281) (pc' := 285) rfl (hb hby at_281) (by decide) (by decide) ?_
  show Steps p.tables e below (T3.setTop (mkF m 285 #[.val (.int p1), .val (.int p2), .val (.int p3), .val (.int p4), .val (.int p5), .val (.ref r5), .val (.ref r6), .val (.ref r7), .val (.ref r8), .val (.ref r9), .val (.ref r10), .val (.int (1 : Int32)), .val (.int (1 : Int32)), .val (.int (1 : Int32))] [(.int (1 : Int32))])) _
  exact retN X3 hx (t := .boolean) hret (by simp) (hb hby at_285) hr
theorem own_c01 (l : Launch) (Z : State) (a0 : Array Value) (hw : own_HW a0 Z) {p : Program} {e : Env} {s : State} {m : MethodId} {args : Array Value} {below : List Frame} {meth : Method} {c : Code} (hx : p.tables.exec = Jvm.exec) (hby : c.code = code) (hml : c.maxLocals = 14) (hown : s.vm.findClass sN17 = some m.cls) (hZ : Z.Warmed39 s.vm) (n0 : Nat) (p1 : Int32) (p2 : Int32) (p3 : Int32) (p4 : Int32) (p5 : Int32) (r5 : Addr) (r6 : Addr) (r7 : Addr) (r8 : Addr) (r9 : Addr) (r10 : Addr) (p6 : Int32) (hret : meth.sig.returnType = some .boolean) (h0 : Heap) {T0 : State} {L0 : List Loc} (X0 : Stand p l e room_1 s m args below meth c T0 L0 26 131) (e0 : T0.heap = h0) (N0 : Fr n0 L0) (O0 : Old Z n0 h0) (P1 : Exa Z h0 r7 sN2) (P2 : Fld Z h0 r7 sN2 "size" "I" (.int p4)) (P3 : p4 = (0 : Int32)) (P4 : Exa Z h0 r8 sN2) (P5 : Fld Z h0 r8 sN2 "size" "I" (.int p5)) (P6 : ¬ (p5 = (0 : Int32))) (P7 : Exa Z h0 r10 sN2) (P8 : Fld Z h0 r10 sN2 "size" "I" (.int p6)) (P9 : ¬ (p6 = (0 : Int32))) :
    ∃ (T1 : State) (L1 : List Loc), Stand p l e room_1 s m args below meth c T1 L1 26 131 ∧ Fr n0 L1 ∧ ∀ fs, (∀ (f : JFrame) (acts : List Action), f.method = m → f.locked = none → f.entered = [] → (doReturn e (T1.setTop f) acts (some (.int (1 : Int32)))).1 = T1.setFrames fs) → Steps p.tables e below (T0.setTop (mkF m 187 #[.val (.int p1), .val (.int p2), .val (.int p3), .val (.int p4), .val (.int p5), .val (.ref r5), .val (.ref r6), .val (.ref r7), .val (.ref r8), .val (.ref r9), .val (.ref r10), .unset, .unset, .unset] [])) (T1.setFrames fs) := by
  obtain ⟨_, T1, L1, X1, hQ1, st1⟩ := own_cV X0 hx hZ hown (notFace_of_selects (args := #[]) (mvT hZ (w307 hw))) (w333 hw) (w305 hw) (w307 hw) (w306 hw) (w66 hw) (w308 hw) P1 (rm41_2 l Z a0 hw r7 p4 h0 n0 O0 P2 P3) e0 (hb hby at_189) hml pd_5 [] [] (g := (mkF m 189 #[.val (.int p1), .val (.int p2), .val (.int p3), .val (.int p4), .val (.int p5), .val (.ref r5), .val (.ref r6), .val (.ref r7), .val (.ref r8), .val (.ref r9), .val (.ref r10), .unset, .unset, .unset] [(.ref r7)]))
  obtain ⟨rfl, N1q, e1⟩ := hQ1
  have N1 := Fr.app N0 N1q
  obtain ⟨_, T2, L2, X2, hQ2, st2⟩ := own_cV X1 hx hZ hown (notFace_of_selects (args := #[]) (mvT hZ (w307 hw))) (w333 hw) (w305 hw) (w307 hw) (w306 hw) (w66 hw) (w308 hw) P4 (rm41_1 l Z a0 hw r8 p5 h0 n0 O0 P5 P6) e1 (hb hby at_213) hml pd_5 [] [] (g := (mkF m 213 #[.val (.int p1), .val (.int p2), .val (.int p3), .val (.int p4), .val (.int p5), .val (.ref r5), .val (.ref r6), .val (.ref r7), .val (.ref r8), .val (.ref r9), .val (.ref r10), .val (.int (1 : Int32)), .unset, .unset] [(.ref r8)]))
  obtain ⟨rfl, N2q, e2⟩ := hQ2
  have N2 := Fr.app N1 N2q
  obtain ⟨_, T3, L3, X3, hQ3, st3⟩ := own_cV X2 hx hZ hown (notFace_of_selects (args := #[]) (mvT hZ (w307 hw))) (w333 hw) (w305 hw) (w307 hw) (w306 hw) (w66 hw) (w308 hw) P7 (rm41_1 l Z a0 hw r10 p6 h0 n0 O0 P8 P9) e2 (hb hby at_238) hml pd_5 [] [] (g := (mkF m 238 #[.val (.int p1), .val (.int p2), .val (.int p3), .val (.int p4), .val (.int p5), .val (.ref r5), .val (.ref r6), .val (.ref r7), .val (.ref r8), .val (.ref r9), .val (.ref r10), .val (.int (1 : Int32)), .val (.int (1 : Int32)), .unset] [(.ref r10)]))
  obtain ⟨rfl, N3q, e3⟩ := hQ3
  have N3 := Fr.app N2 N3q
  refine ⟨_, _, X3, N3, fun fs hr => ?_⟩
  show Steps p.tables e below (T0.setTop (mkF m 187 #[.val (.int p1), .val (.int p2), .val (.int p3), .val (.int p4), .val (.int p5), .val (.ref r5), .val (.ref r6), .val (.ref r7), .val (.ref r8), .val (.ref r9), .val (.ref r10), .unset, .unset, .unset] [])) _
  refine XS.aload X0.here hx rfl (hb hby at_187) rfl rfl ?_
  refine st1 _ ?_
  refine XS.iloadN X1.here hx rfl (hb hby at_192) rfl ?_
  refine XS.ifNo X1.here hx rfl (hb hby at_193) rfl ((if0 _ _).trans (teq P3).2) ?_
  refine XS.iconst X1.here hx rfl (hb hby at_196) ?_
  refine XS.goto X1.here hx rfl (pc0 := 197) (pc' := 201) rfl (hb hby at_197) (by decide) (by decide) ?_
  refine XS.icmpNo X1.here hx rfl (hb hby at_201) rfl (by decide) ?_
  refine XS.iconst X1.here hx rfl (hb hby at_204) ?_
  show Steps p.tables e below (T1.setTop (mkF m 205 #[.val (.int p1), .val (.int p2), .val (.int p3), .val (.int p4), .val (.int p5), .val (.ref r5), .val (.ref r6), .val (.ref r7), .val (.ref r8), .val (.ref r9), .val (.ref r10), .unset, .unset, .unset] [(.int (1 : Int32))])) _
  refine XS.goto X1.here hx rfl (pc0 := 205) (pc' := 209) rfl (hb hby at_205) (by decide) (by decide) ?_
  refine XS.istore X1.here hx rfl (hb hby at_209) rfl (l' := #[.val (.int p1), .val (.int p2), .val (.int p3), .val (.int p4), .val (.int p5), .val (.ref r5), .val (.ref r6), .val (.ref r7), .val (.ref r8), .val (.ref r9), .val (.ref r10), .val (.int (1 : Int32)), .unset, .unset]) rfl ?_
  refine XS.aload X1.here hx rfl (hb hby at_211) rfl rfl ?_
  refine st2 _ ?_
  refine XS.iload X2.here hx rfl (hb hby at_216) rfl ?_
  refine XS.ifYes X2.here hx rfl (pc0 := 218) (pc' := 225) rfl (hb hby at_218) rfl ((if0 _ _).trans (feq P6).2) (by decide) (by decide) ?_
  refine XS.iconst X2.here hx rfl (hb hby at_225) ?_
  refine XS.icmpNo X2.here hx rfl (hb hby at_226) rfl (by decide) ?_
  show Steps p.tables e below (T2.setTop (mkF m 229 #[.val (.int p1), .val (.int p2), .val (.int p3), .val (.int p4), .val (.int p5), .val (.ref r5), .val (.ref r6), .val (.ref r7), .val (.ref r8), .val (.ref r9), .val (.ref r10), .val (.int (1 : Int32)), .unset, .unset] [])) _
  refine XS.iconst X2.here hx rfl (hb hby at_229) ?_
  refine XS.goto X2.here hx rfl (pc0 := 230) (pc' := 234) rfl (hb hby at_230) (by decide) (by decide) ?_
  refine XS.istore X2.here hx rfl (hb hby at_234) rfl (l' := #[.val (.int p1), .val (.int p2), .val (.int p3), .val (.int p4), .val (.int p5), .val (.ref r5), .val (.ref r6), .val (.ref r7), .val (.ref r8), .val (.ref r9), .val (.ref r10), .val (.int (1 : Int32)), .val (.int (1 : Int32)), .unset]) rfl ?_
  refine XS.aload X2.here hx rfl (hb hby at_236) rfl rfl ?_
  refine st3 _ ?_
  refine XS.iloadN X3.here hx rfl (hb hby at_241) rfl ?_
  refine XS.ifNo X3.here hx rfl (hb hby at_242) rfl ((if0 _ _).trans (teq P3).2) ?_
  refine XS.iload X3.here hx rfl (hb hby at_245) rfl ?_
  show Steps p.tables e below (T3.setTop (mkF m 247 #[.val (.int p1), .val (.int p2), .val (.int p3), .val (.int p4), .val (.int p5), .val (.ref r5), .val (.ref r6), .val (.ref r7), .val (.ref r8), .val (.ref r9), .val (.ref r10), .val (.int (1 : Int32)), .val (.int (1 : Int32)), .unset] [(.int p5), (.int (0 : Int32))])) _
  refine XS.ifYes X3.here hx rfl (pc0 := 247) (pc' := 254) rfl (hb hby at_247) rfl ((if0 _ _).trans (feq P6).2) (by decide) (by decide) ?_
  refine XS.iconst X3.here hx rfl (hb hby at_254) ?_
  refine XS.icmpNo X3.here hx rfl (hb hby at_255) rfl (by decide) ?_
  refine XS.iconst X3.here hx rfl (hb hby at_258) ?_
  refine XS.goto X3.here hx rfl (pc0 := 259) (pc' := 263) rfl (hb hby at_259) (by decide) (by decide) ?_
  refine XS.istore X3.here hx rfl (hb hby at_263) rfl (l' := #[.val (.int p1), .val (.int p2), .val (.int p3), .val (.int p4), .val (.int p5), .val (.ref r5), .val (.ref r6), .val (.ref r7), .val (.ref r8), .val (.ref r9), .val (.ref r10), .val (.int (1 : Int32)), .val (.int (1 : Int32)), .val (.int (1 : Int32))]) rfl ?_
  refine XS.iload X3.here hx rfl (hb hby at_265) rfl ?_
  refine XS.ifNo X3.here hx rfl (hb hby at_267) rfl (by decide) ?_
  show Steps p.tables e below (T3.setTop (mkF m 270 #[.val (.int p1), .val (.int p2), .val (.int p3), .val (.int p4), .val (.int p5), .val (.ref r5), .val (.ref r6), .val (.ref r7), .val (.ref r8), .val (.ref r9), .val (.ref r10), .val (.int (1 : Int32)), .val (.int (1 : Int32)), .val (.int (1 : Int32))] [])) _
  refine XS.iload X3.here hx rfl (hb hby at_270) rfl ?_
  refine XS.ifNo X3.here hx rfl (hb hby at_272) rfl (by decide) ?_
  refine XS.iload X3.here hx rfl (hb hby at_275) rfl ?_
  refine XS.ifNo X3.here hx rfl (hb hby at_277) rfl (by decide) ?_
  refine XS.iconst X3.here hx rfl (hb hby at_280) ?_
  refine XS.goto X3.here hx rfl (pc0 := 281) (pc' := 285) rfl (hb hby at_281) (by decide) (by decide) ?_
  exact retN X3 hx (t := .boolean) hret (by simp) (hb hby at_285) hr
theorem own_c10 (l : Launch) (Z : State) (a0 : Array Value) (hw : own_HW a0 Z) {p : Program} {e : Env} {s : State} {m : MethodId} {args : Array Value} {below : List Frame} {meth : Method} {c : Code} (hx : p.tables.exec = Jvm.exec) (hby : c.code = code) (hml : c.maxLocals = 14) (hown : s.vm.findClass sN17 = some m.cls) (hZ : Z.Warmed39 s.vm) (n0 : Nat) (p1 : Int32) (p2 : Int32) (p3 : Int32) (p4 : Int32) (p5 : Int32) (r5 : Addr) (r6 : Addr) (r7 : Addr) (r8 : Addr) (r9 : Addr) (r10 : Addr) (p6 : Int32) (hret : meth.sig.returnType = some .boolean) (h0 : Heap) {T0 : State} {L0 : List Loc} (X0 : Stand p l e room_1 s m args below meth c T0 L0 26 131) (e0 : T0.heap = h0) (N0 : Fr n0 L0) (O0 : Old Z n0 h0) (P1 : Exa Z h0 r7 sN2) (P2 : Fld Z h0 r7 sN2 "size" "I" (.int p4)) (P3 : ¬ (p4 = (0 : Int32))) (P4 : Exa Z h0 r8 sN2) (P5 : Fld Z h0 r8 sN2 "size" "I" (.int p5)) (P6 : p5 = (0 : Int32)) (P7 : Exa Z h0 r10 sN2) (P8 : Fld Z h0 r10 sN2 "size" "I" (.int p6)) (P9 : ¬ (p6 = (0 : Int32))) :
    ∃ (T1 : State) (L1 : List Loc), Stand p l e room_1 s m args below meth c T1 L1 26 131 ∧ Fr n0 L1 ∧ ∀ fs, (∀ (f : JFrame) (acts : List Action), f.method = m → f.locked = none → f.entered = [] → (doReturn e (T1.setTop f) acts (some (.int (1 : Int32)))).1 = T1.setFrames fs) → Steps p.tables e below (T0.setTop (mkF m 187 #[.val (.int p1), .val (.int p2), .val (.int p3), .val (.int p4), .val (.int p5), .val (.ref r5), .val (.ref r6), .val (.ref r7), .val (.ref r8), .val (.ref r9), .val (.ref r10), .unset, .unset, .unset] [])) (T1.setFrames fs) := by
  obtain ⟨_, T1, L1, X1, hQ1, st1⟩ := own_cV X0 hx hZ hown (notFace_of_selects (args := #[]) (mvT hZ (w307 hw))) (w333 hw) (w305 hw) (w307 hw) (w306 hw) (w66 hw) (w308 hw) P1 (rm41_1 l Z a0 hw r7 p4 h0 n0 O0 P2 P3) e0 (hb hby at_189) hml pd_5 [] [] (g := (mkF m 189 #[.val (.int p1), .val (.int p2), .val (.int p3), .val (.int p4), .val (.int p5), .val (.ref r5), .val (.ref r6), .val (.ref r7), .val (.ref r8), .val (.ref r9), .val (.ref r10), .unset, .unset, .unset] [(.ref r7)]))
  obtain ⟨rfl, N1q, e1⟩ := hQ1
  have N1 := Fr.app N0 N1q
  obtain ⟨_, T2, L2, X2, hQ2, st2⟩ := own_cV X1 hx hZ hown (notFace_of_selects (args := #[]) (mvT hZ (w307 hw))) (w333 hw) (w305 hw) (w307 hw) (w306 hw) (w66 hw) (w308 hw) P4 (rm41_2 l Z a0 hw r8 p5 h0 n0 O0 P5 P6) e1 (hb hby at_213) hml pd_5 [] [] (g := (mkF m 213 #[.val (.int p1), .val (.int p2), .val (.int p3), .val (.int p4), .val (.int p5), .val (.ref r5), .val (.ref r6), .val (.ref r7), .val (.ref r8), .val (.ref r9), .val (.ref r10), .val (.int (1 : Int32)), .unset, .unset] [(.ref r8)]))
  obtain ⟨rfl, N2q, e2⟩ := hQ2
  have N2 := Fr.app N1 N2q
  obtain ⟨_, T3, L3, X3, hQ3, st3⟩ := own_cV X2 hx hZ hown (notFace_of_selects (args := #[]) (mvT hZ (w307 hw))) (w333 hw) (w305 hw) (w307 hw) (w306 hw) (w66 hw) (w308 hw) P7 (rm41_1 l Z a0 hw r10 p6 h0 n0 O0 P8 P9) e2 (hb hby at_238) hml pd_5 [] [] (g := (mkF m 238 #[.val (.int p1), .val (.int p2), .val (.int p3), .val (.int p4), .val (.int p5), .val (.ref r5), .val (.ref r6), .val (.ref r7), .val (.ref r8), .val (.ref r9), .val (.ref r10), .val (.int (1 : Int32)), .val (.int (1 : Int32)), .unset] [(.ref r10)]))
  obtain ⟨rfl, N3q, e3⟩ := hQ3
  have N3 := Fr.app N2 N3q
  refine ⟨_, _, X3, N3, fun fs hr => ?_⟩
  show Steps p.tables e below (T0.setTop (mkF m 187 #[.val (.int p1), .val (.int p2), .val (.int p3), .val (.int p4), .val (.int p5), .val (.ref r5), .val (.ref r6), .val (.ref r7), .val (.ref r8), .val (.ref r9), .val (.ref r10), .unset, .unset, .unset] [])) _
  refine XS.aload X0.here hx rfl (hb hby at_187) rfl rfl ?_
  refine st1 _ ?_
  refine XS.iloadN X1.here hx rfl (hb hby at_192) rfl ?_
  refine XS.ifYes X1.here hx rfl (pc0 := 193) (pc' := 200) rfl (hb hby at_193) rfl ((if0 _ _).trans (feq P3).2) (by decide) (by decide) ?_
  refine XS.iconst X1.here hx rfl (hb hby at_200) ?_
  refine XS.icmpNo X1.here hx rfl (hb hby at_201) rfl (by decide) ?_
  refine XS.iconst X1.here hx rfl (hb hby at_204) ?_
  refine XS.goto X1.here hx rfl (pc0 := 205) (pc' := 209) rfl (hb hby at_205) (by decide) (by decide) ?_
  show Steps p.tables e below (T1.setTop (mkF m 209 #[.val (.int p1), .val (.int p2), .val (.int p3), .val (.int p4), .val (.int p5), .val (.ref r5), .val (.ref r6), .val (.ref r7), .val (.ref r8), .val (.ref r9), .val (.ref r10), .unset, .unset, .unset] [(.int (1 : Int32))])) _
  refine XS.istore X1.here hx rfl (hb hby at_209) rfl (l' := #[.val (.int p1), .val (.int p2), .val (.int p3), .val (.int p4), .val (.int p5), .val (.ref r5), .val (.ref r6), .val (.ref r7), .val (.ref r8), .val (.ref r9), .val (.ref r10), .val (.int (1 : Int32)), .unset, .unset]) rfl ?_
  refine XS.aload X1.here hx rfl (hb hby at_211) rfl rfl ?_
  refine st2 _ ?_
  refine XS.iload X2.here hx rfl (hb hby at_216) rfl ?_
  refine XS.ifNo X2.here hx rfl (hb hby at_218) rfl ((if0 _ _).trans (teq P6).2) ?_
  refine XS.iconst X2.here hx rfl (hb hby at_221) ?_
  refine XS.goto X2.here hx rfl (pc0 := 222) (pc' := 226) rfl (hb hby at_222) (by decide) (by decide) ?_
  refine XS.icmpNo X2.here hx rfl (hb hby at_226) rfl (by decide) ?_
  show Steps p.tables e below (T2.setTop (mkF m 229 #[.val (.int p1), .val (.int p2), .val (.int p3), .val (.int p4), .val (.int p5), .val (.ref r5), .val (.ref r6), .val (.ref r7), .val (.ref r8), .val (.ref r9), .val (.ref r10), .val (.int (1 : Int32)), .unset, .unset] [])) _
  refine XS.iconst X2.here hx rfl (hb hby at_229) ?_
  refine XS.goto X2.here hx rfl (pc0 := 230) (pc' := 234) rfl (hb hby at_230) (by decide) (by decide) ?_
  refine XS.istore X2.here hx rfl (hb hby at_234) rfl (l' := #[.val (.int p1), .val (.int p2), .val (.int p3), .val (.int p4), .val (.int p5), .val (.ref r5), .val (.ref r6), .val (.ref r7), .val (.ref r8), .val (.ref r9), .val (.ref r10), .val (.int (1 : Int32)), .val (.int (1 : Int32)), .unset]) rfl ?_
  refine XS.aload X2.here hx rfl (hb hby at_236) rfl rfl ?_
  refine st3 _ ?_
  refine XS.iloadN X3.here hx rfl (hb hby at_241) rfl ?_
  refine XS.ifYes X3.here hx rfl (pc0 := 242) (pc' := 254) rfl (hb hby at_242) rfl ((if0 _ _).trans (feq P3).2) (by decide) (by decide) ?_
  refine XS.iconst X3.here hx rfl (hb hby at_254) ?_
  show Steps p.tables e below (T3.setTop (mkF m 255 #[.val (.int p1), .val (.int p2), .val (.int p3), .val (.int p4), .val (.int p5), .val (.ref r5), .val (.ref r6), .val (.ref r7), .val (.ref r8), .val (.ref r9), .val (.ref r10), .val (.int (1 : Int32)), .val (.int (1 : Int32)), .unset] [(.int (0 : Int32)), (.int (0 : Int32))])) _
  refine XS.icmpNo X3.here hx rfl (hb hby at_255) rfl (by decide) ?_
  refine XS.iconst X3.here hx rfl (hb hby at_258) ?_
  refine XS.goto X3.here hx rfl (pc0 := 259) (pc' := 263) rfl (hb hby at_259) (by decide) (by decide) ?_
  refine XS.istore X3.here hx rfl (hb hby at_263) rfl (l' := #[.val (.int p1), .val (.int p2), .val (.int p3), .val (.int p4), .val (.int p5), .val (.ref r5), .val (.ref r6), .val (.ref r7), .val (.ref r8), .val (.ref r9), .val (.ref r10), .val (.int (1 : Int32)), .val (.int (1 : Int32)), .val (.int (1 : Int32))]) rfl ?_
  refine XS.iload X3.here hx rfl (hb hby at_265) rfl ?_
  refine XS.ifNo X3.here hx rfl (hb hby at_267) rfl (by decide) ?_
  refine XS.iload X3.here hx rfl (hb hby at_270) rfl ?_
  refine XS.ifNo X3.here hx rfl (hb hby at_272) rfl (by decide) ?_
  show Steps p.tables e below (T3.setTop (mkF m 275 #[.val (.int p1), .val (.int p2), .val (.int p3), .val (.int p4), .val (.int p5), .val (.ref r5), .val (.ref r6), .val (.ref r7), .val (.ref r8), .val (.ref r9), .val (.ref r10), .val (.int (1 : Int32)), .val (.int (1 : Int32)), .val (.int (1 : Int32))] [])) _
  refine XS.iload X3.here hx rfl (hb hby at_275) rfl ?_
  refine XS.ifNo X3.here hx rfl (hb hby at_277) rfl (by decide) ?_
  refine XS.iconst X3.here hx rfl (hb hby at_280) ?_
  refine XS.goto X3.here hx rfl (pc0 := 281) (pc' := 285) rfl (hb hby at_281) (by decide) (by decide) ?_
  exact retN X3 hx (t := .boolean) hret (by simp) (hb hby at_285) hr
theorem own_c11 (l : Launch) (Z : State) (a0 : Array Value) (hw : own_HW a0 Z) {p : Program} {e : Env} {s : State} {m : MethodId} {args : Array Value} {below : List Frame} {meth : Method} {c : Code} (hx : p.tables.exec = Jvm.exec) (hby : c.code = code) (hml : c.maxLocals = 14) (hown : s.vm.findClass sN17 = some m.cls) (hZ : Z.Warmed39 s.vm) (n0 : Nat) (p1 : Int32) (p2 : Int32) (p3 : Int32) (p4 : Int32) (p5 : Int32) (r5 : Addr) (r6 : Addr) (r7 : Addr) (r8 : Addr) (r9 : Addr) (r10 : Addr) (p6 : Int32) (hret : meth.sig.returnType = some .boolean) (h0 : Heap) {T0 : State} {L0 : List Loc} (X0 : Stand p l e room_1 s m args below meth c T0 L0 26 131) (e0 : T0.heap = h0) (N0 : Fr n0 L0) (O0 : Old Z n0 h0) (P1 : Exa Z h0 r7 sN2) (P2 : Fld Z h0 r7 sN2 "size" "I" (.int p4)) (P3 : ¬ (p4 = (0 : Int32))) (P4 : Exa Z h0 r8 sN2) (P5 : Fld Z h0 r8 sN2 "size" "I" (.int p5)) (P6 : ¬ (p5 = (0 : Int32))) (P7 : Exa Z h0 r10 sN2) (P8 : Fld Z h0 r10 sN2 "size" "I" (.int p6)) (P9 : ¬ (p6 = (0 : Int32))) :
    ∃ (T1 : State) (L1 : List Loc), Stand p l e room_1 s m args below meth c T1 L1 26 131 ∧ Fr n0 L1 ∧ ∀ fs, (∀ (f : JFrame) (acts : List Action), f.method = m → f.locked = none → f.entered = [] → (doReturn e (T1.setTop f) acts (some (.int (1 : Int32)))).1 = T1.setFrames fs) → Steps p.tables e below (T0.setTop (mkF m 187 #[.val (.int p1), .val (.int p2), .val (.int p3), .val (.int p4), .val (.int p5), .val (.ref r5), .val (.ref r6), .val (.ref r7), .val (.ref r8), .val (.ref r9), .val (.ref r10), .unset, .unset, .unset] [])) (T1.setFrames fs) := by
  obtain ⟨_, T1, L1, X1, hQ1, st1⟩ := own_cV X0 hx hZ hown (notFace_of_selects (args := #[]) (mvT hZ (w307 hw))) (w333 hw) (w305 hw) (w307 hw) (w306 hw) (w66 hw) (w308 hw) P1 (rm41_1 l Z a0 hw r7 p4 h0 n0 O0 P2 P3) e0 (hb hby at_189) hml pd_5 [] [] (g := (mkF m 189 #[.val (.int p1), .val (.int p2), .val (.int p3), .val (.int p4), .val (.int p5), .val (.ref r5), .val (.ref r6), .val (.ref r7), .val (.ref r8), .val (.ref r9), .val (.ref r10), .unset, .unset, .unset] [(.ref r7)]))
  obtain ⟨rfl, N1q, e1⟩ := hQ1
  have N1 := Fr.app N0 N1q
  obtain ⟨_, T2, L2, X2, hQ2, st2⟩ := own_cV X1 hx hZ hown (notFace_of_selects (args := #[]) (mvT hZ (w307 hw))) (w333 hw) (w305 hw) (w307 hw) (w306 hw) (w66 hw) (w308 hw) P4 (rm41_1 l Z a0 hw r8 p5 h0 n0 O0 P5 P6) e1 (hb hby at_213) hml pd_5 [] [] (g := (mkF m 213 #[.val (.int p1), .val (.int p2), .val (.int p3), .val (.int p4), .val (.int p5), .val (.ref r5), .val (.ref r6), .val (.ref r7), .val (.ref r8), .val (.ref r9), .val (.ref r10), .val (.int (1 : Int32)), .unset, .unset] [(.ref r8)]))
  obtain ⟨rfl, N2q, e2⟩ := hQ2
  have N2 := Fr.app N1 N2q
  obtain ⟨_, T3, L3, X3, hQ3, st3⟩ := own_cV X2 hx hZ hown (notFace_of_selects (args := #[]) (mvT hZ (w307 hw))) (w333 hw) (w305 hw) (w307 hw) (w306 hw) (w66 hw) (w308 hw) P7 (rm41_1 l Z a0 hw r10 p6 h0 n0 O0 P8 P9) e2 (hb hby at_238) hml pd_5 [] [] (g := (mkF m 238 #[.val (.int p1), .val (.int p2), .val (.int p3), .val (.int p4), .val (.int p5), .val (.ref r5), .val (.ref r6), .val (.ref r7), .val (.ref r8), .val (.ref r9), .val (.ref r10), .val (.int (1 : Int32)), .val (.int (1 : Int32)), .unset] [(.ref r10)]))
  obtain ⟨rfl, N3q, e3⟩ := hQ3
  have N3 := Fr.app N2 N3q
  refine ⟨_, _, X3, N3, fun fs hr => ?_⟩
  show Steps p.tables e below (T0.setTop (mkF m 187 #[.val (.int p1), .val (.int p2), .val (.int p3), .val (.int p4), .val (.int p5), .val (.ref r5), .val (.ref r6), .val (.ref r7), .val (.ref r8), .val (.ref r9), .val (.ref r10), .unset, .unset, .unset] [])) _
  refine XS.aload X0.here hx rfl (hb hby at_187) rfl rfl ?_
  refine st1 _ ?_
  refine XS.iloadN X1.here hx rfl (hb hby at_192) rfl ?_
  refine XS.ifYes X1.here hx rfl (pc0 := 193) (pc' := 200) rfl (hb hby at_193) rfl ((if0 _ _).trans (feq P3).2) (by decide) (by decide) ?_
  refine XS.iconst X1.here hx rfl (hb hby at_200) ?_
  refine XS.icmpNo X1.here hx rfl (hb hby at_201) rfl (by decide) ?_
  refine XS.iconst X1.here hx rfl (hb hby at_204) ?_
  refine XS.goto X1.here hx rfl (pc0 := 205) (pc' := 209) rfl (hb hby at_205) (by decide) (by decide) ?_
  show Steps p.tables e below (T1.setTop (mkF m 209 #[.val (.int p1), .val (.int p2), .val (.int p3), .val (.int p4), .val (.int p5), .val (.ref r5), .val (.ref r6), .val (.ref r7), .val (.ref r8), .val (.ref r9), .val (.ref r10), .unset, .unset, .unset] [(.int (1 : Int32))])) _
  refine XS.istore X1.here hx rfl (hb hby at_209) rfl (l' := #[.val (.int p1), .val (.int p2), .val (.int p3), .val (.int p4), .val (.int p5), .val (.ref r5), .val (.ref r6), .val (.ref r7), .val (.ref r8), .val (.ref r9), .val (.ref r10), .val (.int (1 : Int32)), .unset, .unset]) rfl ?_
  refine XS.aload X1.here hx rfl (hb hby at_211) rfl rfl ?_
  refine st2 _ ?_
  refine XS.iload X2.here hx rfl (hb hby at_216) rfl ?_
  refine XS.ifYes X2.here hx rfl (pc0 := 218) (pc' := 225) rfl (hb hby at_218) rfl ((if0 _ _).trans (feq P6).2) (by decide) (by decide) ?_
  refine XS.iconst X2.here hx rfl (hb hby at_225) ?_
  refine XS.icmpNo X2.here hx rfl (hb hby at_226) rfl (by decide) ?_
  refine XS.iconst X2.here hx rfl (hb hby at_229) ?_
  show Steps p.tables e below (T2.setTop (mkF m 230 #[.val (.int p1), .val (.int p2), .val (.int p3), .val (.int p4), .val (.int p5), .val (.ref r5), .val (.ref r6), .val (.ref r7), .val (.ref r8), .val (.ref r9), .val (.ref r10), .val (.int (1 : Int32)), .unset, .unset] [(.int (1 : Int32))])) _
  refine XS.goto X2.here hx rfl (pc0 := 230) (pc' := 234) rfl (hb hby at_230) (by decide) (by decide) ?_
  refine XS.istore X2.here hx rfl (hb hby at_234) rfl (l' := #[.val (.int p1), .val (.int p2), .val (.int p3), .val (.int p4), .val (.int p5), .val (.ref r5), .val (.ref r6), .val (.ref r7), .val (.ref r8), .val (.ref r9), .val (.ref r10), .val (.int (1 : Int32)), .val (.int (1 : Int32)), .unset]) rfl ?_
  refine XS.aload X2.here hx rfl (hb hby at_236) rfl rfl ?_
  refine st3 _ ?_
  refine XS.iloadN X3.here hx rfl (hb hby at_241) rfl ?_
  refine XS.ifYes X3.here hx rfl (pc0 := 242) (pc' := 254) rfl (hb hby at_242) rfl ((if0 _ _).trans (feq P3).2) (by decide) (by decide) ?_
  refine XS.iconst X3.here hx rfl (hb hby at_254) ?_
  refine XS.icmpNo X3.here hx rfl (hb hby at_255) rfl (by decide) ?_
  show Steps p.tables e below (T3.setTop (mkF m 258 #[.val (.int p1), .val (.int p2), .val (.int p3), .val (.int p4), .val (.int p5), .val (.ref r5), .val (.ref r6), .val (.ref r7), .val (.ref r8), .val (.ref r9), .val (.ref r10), .val (.int (1 : Int32)), .val (.int (1 : Int32)), .unset] [])) _
  refine XS.iconst X3.here hx rfl (hb hby at_258) ?_
  refine XS.goto X3.here hx rfl (pc0 := 259) (pc' := 263) rfl (hb hby at_259) (by decide) (by decide) ?_
  refine XS.istore X3.here hx rfl (hb hby at_263) rfl (l' := #[.val (.int p1), .val (.int p2), .val (.int p3), .val (.int p4), .val (.int p5), .val (.ref r5), .val (.ref r6), .val (.ref r7), .val (.ref r8), .val (.ref r9), .val (.ref r10), .val (.int (1 : Int32)), .val (.int (1 : Int32)), .val (.int (1 : Int32))]) rfl ?_
  refine XS.iload X3.here hx rfl (hb hby at_265) rfl ?_
  refine XS.ifNo X3.here hx rfl (hb hby at_267) rfl (by decide) ?_
  refine XS.iload X3.here hx rfl (hb hby at_270) rfl ?_
  refine XS.ifNo X3.here hx rfl (hb hby at_272) rfl (by decide) ?_
  refine XS.iload X3.here hx rfl (hb hby at_275) rfl ?_
  show Steps p.tables e below (T3.setTop (mkF m 277 #[.val (.int p1), .val (.int p2), .val (.int p3), .val (.int p4), .val (.int p5), .val (.ref r5), .val (.ref r6), .val (.ref r7), .val (.ref r8), .val (.ref r9), .val (.ref r10), .val (.int (1 : Int32)), .val (.int (1 : Int32)), .val (.int (1 : Int32))] [(.int (1 : Int32))])) _
  refine XS.ifNo X3.here hx rfl (hb hby at_277) rfl (by decide) ?_
  refine XS.iconst X3.here hx rfl (hb hby at_280) ?_
  refine XS.goto X3.here hx rfl (pc0 := 281) (pc' := 285) rfl (hb hby at_281) (by decide) (by decide) ?_
  exact retN X3 hx (t := .boolean) hret (by simp) (hb hby at_285) hr
theorem own_mz (a : Int32) (ha : own_In a) : own_mn a (0 : Int32) = (0 : Int32) := by
  rcases ha with rfl | rfl | rfl | rfl <;> decide
theorem own_me (a : Int32) (ha : own_In a) : own_mn a (3 : Int32) = a := by
  rcases ha with rfl | rfl | rfl | rfl <;> decide
theorem own_ns (a b : Int32) (ha : own_In a) (hb : own_In b) (h : ¬ (a = (0 : Int32) ∧ b = (0 : Int32))) : ¬ (a + b = (0 : Int32)) := by
  revert h
  rcases ha with rfl | rfl | rfl | rfl <;> rcases hb with rfl | rfl | rfl | rfl <;> decide
theorem own_in (p : Int32) : own_In (p &&& (3 : Int32)) := by
  have hm : (p &&& (3 : Int32)).toInt = p.toInt % 4 := c_mask p (3 : Int32) 2 (by decide) (by decide)
  have z0 : (0 : Int32).toInt = 0 := rfl
  have z1 : (1 : Int32).toInt = 1 := rfl
  have z2 : (2 : Int32).toInt = 2 := rfl
  have z3 : (3 : Int32).toInt = 3 := rfl
  unfold own_In
  simp only [← Int32.toInt_inj, z0, z1, z2, z3]
  omega
theorem own_fldR {args : Array Value} {s : State} {t u : Term} {C n d : String} {w v : Addr} (h : (Jvm.Cond.eq (Term.field t C n d) u).value args s none s [] = some true) (ev : t.eval args s none [] s = some (.ref w)) (eu : u.eval args s none [] s = some (.ref v)) : Fld s s.heap w C n d (.ref v) :=
  Fld.start ((fld_at ev).symm.trans (Cond.eq_refs (beq_iff_eq.mpr h : (Jvm.Cond.eq (Term.field t C n d) u).holds args s none s [] = true) eu rfl))
theorem own_arr0 {s : State} {args : Array Value} {t : Term} {w : Addr} {ty : FieldType} (hf : Fit s) (ev : t.eval args s none [] s = some (.ref w)) (h2 : (Jvm.Cond.arrayOf t ty).value args s none s [] = some true) (h3 : (Jvm.Cond.eq (Term.length t) (Term.int (0 : Int32))).value args s none s [] = some true) : ∃ k, Arv s s.heap w k ty (0 : Int32) [] .null := by
  obtain ⟨cl, A⟩ := Arr.start ev h2
  have hat : s.arrayAt? w = some cl := A.fin (Vm.Alike.refl _)
  obtain ⟨x, y, ex, ey, -, -⟩ := cmp_v (Or.inl h3)
  by_cases hs : cl.slots.size < 2 ^ 31
  · have q : cl.slots.size.toInt32 = 0 := gotT (P := cl.slots.size.toInt32 = 0) (Cond.eq_ints (len_f ev hat hs) rfl) h3
    exact ⟨_, Arv.start hf A hs q (by decide) rfl trivial⟩
  · simp only [Term.eval, ev, hat, Option.bind_eq_bind, Option.bind_some] at ex
    rw [if_neg hs] at ex; cases ex
theorem own_law (l : Launch) (Z : State) (a0 : Array Value) (hw : own_HW a0 Z) (ws : List Jvm.Cond) (p1 p2 p3 : Int32) (w_DEF : Addr) (w_kDEF : ClassId) (w_BOOLEAN : Addr) (w_LIST : Addr) (w_LELS : Addr) (w_kLEL : ClassId) (w_MIR : Addr) (w_NIL : Addr) (h0 : Heap) (n0 : Nat) (O0 : Old Z n0 h0) (S_DEF : Sta Z Z.heap sN0 sN31 sN4 (.ref w_DEF)) (E_w_DEF : Exa Z Z.heap w_DEF sN4) (V_w_DEF : Arv Z Z.heap w_DEF w_kDEF (.object sN1) (0 : Int32) [] .null) (S_w_BOOLEAN : Sta Z Z.heap sN12 "BOOLEAN" sN15 (.ref w_BOOLEAN)) (E_w_BOOLEAN : Exa Z Z.heap w_BOOLEAN sN12) (S_LIST : Sta Z Z.heap sN14 "EMPTY_LIST" sN34 (.ref w_LIST)) (E_w_LIST : Exa Z Z.heap w_LIST sN7) (F_LIST : Fld Z Z.heap w_LIST sN7 "elements" sN4 (.ref w_LELS)) (V_w_LELS : Arv Z Z.heap w_LELS w_kLEL (.object sN1) (0 : Int32) [] .null) (M_OA : Mir Z sN4 w_MIR) (S_NIL : Sta Z Z.heap sN14 "EMPTY" sN11 (.ref w_NIL)) (E_w_NIL : Exa Z Z.heap w_NIL sN1) (PK : ∀ k : Int32, own_Pick l Z n0 w_BOOLEAN p3 k) :
    MetFree l x (head1 (Jvm.Cond.code x code maxLocals ret :: ws) room_1) (fun a U => a = #[(.int p1), (.int p2), (.int p3)] ∧ Z.Warmed39 U.vm ∧ U.heap = h0) (fun _ _ _ _ _ => True) (fun _ U o U' => ∃ v L, o = .returned v ∧ own_Q1 n0 v U'.heap L ∧ FrameEnd U o U' L room_1.cells room_1.slots) := by
  refine MetFree.of_bodySF (plainFor_of_name pn_89) hisR ?_
  intro p e s m args below meth c s₁ Bd hml0 hP hK
  obtain ⟨rfl, hZ, hh⟩ := hP
  have hx := Bd.exec
  have hby := Bd.bytes
  have hml : c.maxLocals = 14 := hml0
  have hret := Bd.returns
  have hown : s.vm.findClass sN17 = some m.cls := findClass_of_methodNamed Bd.named
  have X0 : Stand p l e room_1 s m #[(.int p1), (.int p2), (.int p3)] below meth c s₁ [] 0 0 := Stand.of_body Bd
  have e0 : s₁.heap = h0 := by rw [← hh, Bd.state]; rfl
  have N0 := Fr.nil n0
  have ia := own_in p1
  have ib := own_in p2
  have pre0 : ∀ t, Steps p.tables e below (s₁.setTop (mkF m 0 #[.val (.int p1), .val (.int p2), .val (.int p3), .unset, .unset, .unset, .unset, .unset, .unset, .unset, .unset, .unset, .unset, .unset] [])) t → Steps p.tables e below (s₁.setTop (entryFrame m #[(.int p1), (.int p2), (.int p3)] maxLocals)) t := fun t k => castTop (ef_0_III m p1 p2 p3) k
  obtain ⟨r5, r6, h1, T1, L1, X1, e1, N1, O1, LL1, st1⟩ := own_s0 l Z a0 hw hx hby hml hown hZ n0 p1 p2 p3 w_DEF w_BOOLEAN  h0 X0 e0 N0 O0 S_DEF E_w_DEF
  have Q1 : own_LL Z n0 w_DEF w_BOOLEAN h1 r5 w_DEF (own_mn (p1 &&& (3 : Int32)) (0 : Int32)) r6 w_DEF (0 : Int32) := by rw [own_mz _ ia]; exact LL1
  obtain ⟨b2, h2, T2, L2, X2, e2, N2, O2, LL2, st2⟩ := own_d0 l Z a0 hw hx hby hml hown hZ n0 p1 p2 p3 (p1 &&& (3 : Int32)) (p2 &&& (3 : Int32)) r5 r6 w_BOOLEAN w_DEF w_kDEF (0 : Int32) w_DEF w_DEF ia (PK (0 : Int32)) h1 X1 e1 N1 O1 V_w_DEF S_DEF Q1
  obtain ⟨b3, h3, T3, L3, X3, e3, N3, O3, LL3, st3⟩ := own_d1 l Z a0 hw hx hby hml hown hZ n0 p1 p2 p3 (p1 &&& (3 : Int32)) (p2 &&& (3 : Int32)) r5 r6 w_BOOLEAN w_DEF (0 : Int32) b2 w_DEF ia (PK (1 : Int32)) h2 X2 e2 N2 O2  LL2
  obtain ⟨b4, h4, T4, L4, X4, e4, N4, O4, LL4, st4⟩ := own_d2 l Z a0 hw hx hby hml hown hZ n0 p1 p2 p3 (p1 &&& (3 : Int32)) (p2 &&& (3 : Int32)) r5 r6 w_BOOLEAN w_DEF (0 : Int32) b3 w_DEF ia (PK (2 : Int32)) h3 X3 e3 N3 O3  LL3
  have Q4 : own_LL Z n0 w_DEF w_BOOLEAN h4 r6 w_DEF (own_mn (p2 &&& (3 : Int32)) (0 : Int32)) r5 b4 (p1 &&& (3 : Int32)) := by rw [own_mz _ ib]; have z := own_LL_symm LL4; rwa [own_me _ ia] at z
  obtain ⟨b5, h5, T5, L5, X5, e5, N5, O5, LL5, st5⟩ := own_d3 l Z a0 hw hx hby hml hown hZ n0 p1 p2 p3 (p1 &&& (3 : Int32)) (p2 &&& (3 : Int32)) r5 r6 w_BOOLEAN w_DEF w_kDEF (p1 &&& (3 : Int32)) w_DEF b4 ib (PK (3 : Int32)) h4 X4 e4 N4 O4 V_w_DEF S_DEF Q4
  obtain ⟨b6, h6, T6, L6, X6, e6, N6, O6, LL6, st6⟩ := own_d4 l Z a0 hw hx hby hml hown hZ n0 p1 p2 p3 (p1 &&& (3 : Int32)) (p2 &&& (3 : Int32)) r5 r6 w_BOOLEAN w_DEF (p1 &&& (3 : Int32)) b5 b4 ib (PK (4 : Int32)) h5 X5 e5 N5 O5  LL5
  obtain ⟨b7, h7, T7, L7, X7, e7, N7, O7, LL7, st7⟩ := own_d5 l Z a0 hw hx hby hml hown hZ n0 p1 p2 p3 (p1 &&& (3 : Int32)) (p2 &&& (3 : Int32)) r5 r6 w_BOOLEAN w_DEF (p1 &&& (3 : Int32)) b6 b4 ib (PK (5 : Int32)) h6 X6 e6 N6 O6  LL6
  rw [own_me _ ib] at LL7
  obtain ⟨r7, h8, T8, L8, X8, e8, N8, O8, z7, E7, D7, S7, K7, LS8, st8⟩ := own_s1 l Z a0 hw hx hby hml hown hZ n0 p1 p2 p3 (p1 &&& (3 : Int32)) (p2 &&& (3 : Int32)) r5 r6 w_DEF w_BOOLEAN b4 b7 w_LIST w_LELS w_kLEL w_MIR w_NIL  h7 X7 e7 N7 O7 LL7.2.1 LL7.1 S_w_BOOLEAN E_w_BOOLEAN S_LIST E_w_LIST F_LIST V_w_LELS M_OA S_NIL E_w_NIL
  obtain ⟨r8, h9, T9, L9, X9, e9, N9, O9, E8, D8, S8, K8, E7, D7, S7, K7, st9⟩ := own_s2 l Z a0 hw hx hby hml hown hZ n0 p1 p2 p3 (p1 &&& (3 : Int32)) (p2 &&& (3 : Int32)) r5 r6 r7 w_DEF w_BOOLEAN b7 w_LIST w_LELS w_kLEL w_MIR w_NIL  h8 X8 e8 N8 O8 LS8 S_w_BOOLEAN E_w_BOOLEAN S_LIST E_w_LIST F_LIST V_w_LELS M_OA S_NIL E_w_NIL E7 D7 S7 K7
  obtain ⟨r9, r10, h10, T10, L10, X10, e10, N10, O10, E7, S7, E8, S8, Ej, Sj, st10⟩ := own_s3 l Z a0 hw hx hby hml hown hZ n0 p1 p2 p3 (p1 &&& (3 : Int32)) (p2 &&& (3 : Int32)) r5 r6 r7 r8 w_DEF w_kDEF w_BOOLEAN w_LIST w_MIR  h9 X9 e9 N9 O9 S_DEF V_w_DEF E7 E8 S_w_BOOLEAN S7 S8 S_LIST M_OA D7 K7 D8 K8
  obtain ⟨T11, L11, X11, N11, st11⟩ : ∃ (T1 : State) (L1 : List Loc), Stand p l e room_1 s m #[(.int p1), (.int p2), (.int p3)] below meth c T1 L1 26 131 ∧ Fr n0 L1 ∧ ∀ fs, (∀ (f : JFrame) (acts : List Action), f.method = m → f.locked = none → f.entered = [] → (doReturn e (T1.setTop f) acts (some (.int (1 : Int32)))).1 = T1.setFrames fs) → Steps p.tables e below (T10.setTop (mkF m 187 #[.val (.int p1), .val (.int p2), .val (.int p3), .val (.int (p1 &&& (3 : Int32))), .val (.int (p2 &&& (3 : Int32))), .val (.ref r5), .val (.ref r6), .val (.ref r7), .val (.ref r8), .val (.ref r9), .val (.ref r10), .unset, .unset, .unset] [])) (T1.setFrames fs) := by
    by_cases ca : (p1 &&& (3 : Int32)) = (0 : Int32)
    · by_cases cb : (p2 &&& (3 : Int32)) = (0 : Int32)
      · exact own_c00 l Z a0 hw hx hby hml hown hZ n0 p1 p2 p3 (p1 &&& (3 : Int32)) (p2 &&& (3 : Int32)) r5 r6 r7 r8 r9 r10 ((p1 &&& (3 : Int32)) + (p2 &&& (3 : Int32))) hret h10 X10 e10 N10 O10 E7 S7 ca E8 S8 cb Ej Sj (by rw [ca, cb]; rfl)
      · exact own_c01 l Z a0 hw hx hby hml hown hZ n0 p1 p2 p3 (p1 &&& (3 : Int32)) (p2 &&& (3 : Int32)) r5 r6 r7 r8 r9 r10 ((p1 &&& (3 : Int32)) + (p2 &&& (3 : Int32))) hret h10 X10 e10 N10 O10 E7 S7 ca E8 S8 cb Ej Sj (own_ns _ _ ia ib fun q => cb q.2)
    · by_cases cb : (p2 &&& (3 : Int32)) = (0 : Int32)
      · exact own_c10 l Z a0 hw hx hby hml hown hZ n0 p1 p2 p3 (p1 &&& (3 : Int32)) (p2 &&& (3 : Int32)) r5 r6 r7 r8 r9 r10 ((p1 &&& (3 : Int32)) + (p2 &&& (3 : Int32))) hret h10 X10 e10 N10 O10 E7 S7 ca E8 S8 cb Ej Sj (own_ns _ _ ia ib fun q => ca q.1)
      · exact own_c11 l Z a0 hw hx hby hml hown hZ n0 p1 p2 p3 (p1 &&& (3 : Int32)) (p2 &&& (3 : Int32)) r5 r6 r7 r8 r9 r10 ((p1 &&& (3 : Int32)) + (p2 &&& (3 : Int32))) hret h10 X10 e10 N10 O10 E7 S7 ca E8 S8 cb Ej Sj (own_ns _ _ ia ib fun q => ca q.1)
  obtain ⟨fs, hr, hrun, hended, hW, hsame⟩ := X11.leave (v := some (.int (1 : Int32))) (fun h => by rw [Bd.returns] at h; cases h)
  exact ⟨_, _, pre0 _ (st1 _ (st2 _ (st3 _ (st4 _ (st5 _ (st6 _ (st7 _ (st8 _ (st9 _ (st10 _ (st11 fs hr))))))))))), hrun, hended, _, _, rfl, ⟨rfl, N11⟩, ⟨_, rfl⟩, hW, hsame.mono (by decide) (by decide)⟩
set_option maxRecDepth 65536 in
set_option maxHeartbeats 40000000 in
theorem comes_1 {Post : Tables → Env → Array Value → State → Outcome → State → Prop} (hpost : ∀ tb e args s v u, (limb_1_1.after args s (.returned v) u = true ∧ limb_1_2.after args s (.returned v) u = true ∧ True) → FrameEnd s (.returned v) u (Jvm.fieldLocs frame_1_writes args s ++ Jvm.arrayLocs frame_1_arrays args s ++ Jvm.staticLocs frame_1_statics s) 56 256 → Post tb e args s (.returned v) u) :
    ArmFor flags0 classFile x code maxLocals ret World_1 tables_1 room_1 Calls_1 rest_1 Pre_1 Post := by
  intro l hfl _ _ p e ha hc hk s m args below hf hA hF happ hP
  obtain ⟨hcalls, hrest, hpre⟩ := hP
  obtain ⟨-, -, -, hnamed, -, -, -, hat⟩ := (Spec.applies_iff hf).mp happ
  obtain ⟨hg, hn⟩ := and_e (Cond.before_iff.mp (show (Jvm.Cond.and given_1 narrow_1).before args s = true from hpre))
  obtain ⟨g1, g2⟩ := and_e hg
  obtain ⟨g3, g4⟩ := and_e g2
  obtain ⟨g5, g6⟩ := and_e g4
  obtain ⟨v0, v1, v2, rfl⟩ : ∃ v0 v1 v2 : Value, args = #[v0, v1, v2] := by
    have hs : args.size = 3 := by simpa [Cond.value, given_1] using g1
    obtain ⟨L⟩ := args
    match L, hs with
    | [v0, v1, v2], _ => exact ⟨v0, v1, v2, rfl⟩
  have hw := fun d (hd : d ∈ tables_1) => atoms_spec (ws := Jvm.Cond.code x code maxLocals ret :: tables_1) hat d (List.mem_cons_of_mem _ hd)
  have hfit : Fit s := fun {y c} hc i hi => by
    obtain ⟨ha, rfl⟩ := Array.getElem?_eq_some_iff.mp hc
    have q := List.all_eq_true.mp ((Array.all_eq_true_iff_forall_mem.mp hF) _ (Array.getElem_mem ha)) i (List.mem_range.mpr hi)
    simpa [Array.getElem?_eq_getElem hi] using q
  obtain ⟨hsets, hown0⟩ := atoms_of _ (rest_1_c_eq ▸ (show rest_1_c.before _ s = true from hrest))
  have hr0 := Cond.before_iff.mp hown0
  obtain ⟨p1, ei0⟩ := is_v g3
  obtain rfl : v0 = (.int p1) := Option.some.inj ei0
  obtain ⟨p2, ei1⟩ := is_v g5
  obtain rfl : v1 = (.int p2) := Option.some.inj ei1
  obtain ⟨p3, ei2⟩ := is_v g6
  obtain rfl : v2 = (.int p3) := Option.some.inj ei2
  obtain ⟨c1, c2⟩ := and_e hn
  obtain ⟨c3, c4⟩ := and_e c2
  obtain ⟨c5, c6⟩ := and_e c4
  obtain ⟨c7, c8⟩ := and_e c6
  obtain ⟨w_FALSE, ev_w_FALSE⟩ := exa_v c1
  have E_w_FALSE := Exa.start ev_w_FALSE c1
  have S_w_FALSE := Sta.start ev_w_FALSE (Or.inr ⟨(hw _ (List.mem_of_getElem? (i := 31) rfl)), (hw _ (List.mem_of_getElem? (i := 32) rfl))⟩)
  obtain ⟨w_BOOLEAN, ev_w_BOOLEAN⟩ := exa_v c3
  have E_w_BOOLEAN := Exa.start ev_w_BOOLEAN c3
  have S_w_BOOLEAN := Sta.start ev_w_BOOLEAN (Or.inr ⟨(hw _ (List.mem_of_getElem? (i := 68) rfl)), (hw _ (List.mem_of_getElem? (i := 69) rfl))⟩)
  obtain ⟨w_TRUE, ev_w_TRUE⟩ := exa_v c7
  have E_w_TRUE := Exa.start ev_w_TRUE c7
  have S_w_TRUE := Sta.start ev_w_TRUE (Or.inr ⟨(hw _ (List.mem_of_getElem? (i := 31) rfl)), (hw _ (List.mem_of_getElem? (i := 335) rfl))⟩)
  obtain ⟨w_DEF, ev_DEF⟩ := exa_v (Cond.before_iff.mp (hsets _ (List.mem_of_getElem? (i := 7) rfl)))
  have E_w_DEF := Exa.start ev_DEF (Cond.before_iff.mp (hsets _ (List.mem_of_getElem? (i := 7) rfl)))
  have S_DEF := Sta.start ev_DEF (Or.inr ⟨(hw _ (List.mem_of_getElem? (i := 2) rfl)), (hsets _ (List.mem_of_getElem? (i := 2) rfl))⟩)
  obtain ⟨w_kDEF, V_w_DEF⟩ := own_arr0 hfit ev_DEF (Cond.before_iff.mp (hsets _ (List.mem_of_getElem? (i := 6) rfl))) (Cond.before_iff.mp (hsets _ (List.mem_of_getElem? (i := 8) rfl)))
  obtain ⟨w_LIST, ev_LIST⟩ := exa_v (Cond.before_iff.mp (hsets _ (List.mem_of_getElem? (i := 11) rfl)))
  have E_w_LIST := Exa.start ev_LIST (Cond.before_iff.mp (hsets _ (List.mem_of_getElem? (i := 11) rfl)))
  have S_LIST := Sta.start ev_LIST (Or.inl (hsets _ (List.mem_of_getElem? (i := 10) rfl)))
  obtain ⟨w_LELS, ev_LELS⟩ := exa_v (Cond.before_iff.mp (hsets _ (List.mem_of_getElem? (i := 13) rfl)))
  have E_w_LELS := Exa.start ev_LELS (Cond.before_iff.mp (hsets _ (List.mem_of_getElem? (i := 13) rfl)))
  obtain ⟨w_kLEL, V_w_LELS⟩ := own_arr0 hfit ev_LELS (Cond.before_iff.mp (hsets _ (List.mem_of_getElem? (i := 12) rfl))) (Cond.before_iff.mp (hsets _ (List.mem_of_getElem? (i := 14) rfl)))
  have F_LIST := Fld.start ((fld_at ev_LIST).symm.trans ev_LELS)
  obtain ⟨w_NIL, ev_NIL⟩ := exa_v (Cond.before_iff.mp (hsets _ (List.mem_of_getElem? (i := 18) rfl)))
  have E_w_NIL := Exa.start ev_NIL (Cond.before_iff.mp (hsets _ (List.mem_of_getElem? (i := 18) rfl)))
  have S_NIL := Sta.start ev_NIL (Or.inl (hsets _ (List.mem_of_getElem? (i := 17) rfl)))
  obtain ⟨w_cM, w_kM, w_MIR, mm⟩ := (show MirrorMade s "[Ljava/lang/Object;" from hcalls.1)
  have M_OA : Mir s "[Ljava/lang/Object;" w_MIR := ⟨w_cM, w_kM, mm⟩
  have F_dt_FALSE := own_fldR c5 ev_w_FALSE ev_w_BOOLEAN
  have F_dt_TRUE := own_fldR c8 ev_w_TRUE ev_w_BOOLEAN
  have key : MetFree l x (head1 (Jvm.Cond.code x code maxLocals ret :: tables_1) room_1) (fun a U => a = #[(.int p1), (.int p2), (.int p3)] ∧ s.Warmed39 U.vm ∧ U.heap = s.heap) (fun _ _ _ _ _ => True) (fun _ U o U' => ∃ v L, o = .returned v ∧ own_Q1 s.heap.size v U'.heap L ∧ FrameEnd U o U' L room_1.cells room_1.slots) := by
    exact own_law l s _ hw tables_1 p1 p2 p3 w_DEF w_kDEF w_BOOLEAN w_LIST w_LELS w_kLEL w_MIR w_NIL s.heap s.heap.size (Old.start s) S_DEF E_w_DEF V_w_DEF S_w_BOOLEAN E_w_BOOLEAN S_LIST E_w_LIST F_LIST V_w_LELS M_OA S_NIL E_w_NIL (fun k => own_pick l s _ hw s.heap.size w_BOOLEAN w_TRUE w_FALSE S_w_FALSE S_w_TRUE ⟨E_w_TRUE, F_dt_TRUE⟩ ⟨E_w_FALSE, F_dt_FALSE⟩ p3 k)
  obtain ⟨n, o, h1, h2, h3, _, L, rfl, ⟨rfl, N⟩, hq⟩ := key p e ha hc hk s m _ below hf ((Spec.applies_iff_loose hf).mp happ).1 ⟨rfl, State.Warmed39.refl s, rfl⟩ trivial
  refine ⟨n, _, h1, h2, h3, hpost _ _ _ _ _ _ ⟨Cond.after_iff.mpr rfl, Cond.after_iff.mpr (eq_i res_at (Term.int_eval (1)) rfl), trivial⟩ ⟨hq.1, hq.2.1, (hq.2.2.sift fun y hy => Or.inr (N y hy)).mono (by decide) (by decide)⟩⟩
theorem main_1_1 : Claimed_1_1 := comes_1 fun _ _ _ _ _ _ h hF => ⟨h.1, hF⟩
theorem main_1_2 : Claimed_1_2 := comes_1 fun _ _ _ _ _ _ h hF => ⟨h.2.1, hF⟩
end Jvm.Pilot.@@N@@
namespace Jvm.Pilot.@@N@@
open Jvm Jvm.ClassFile Sem Op Lib Jvm.Free Jvm.Stand Jvm.Pilot.@@N@@.Jvm.D
/-! MADE BY PROGRAM (witnessworld.py) out of the Statement's table words and the real class files: 39 classes; the members and pool entries that the words name. The judged class is class 1, her method 1. -/
namespace start1
open Jvm.ClassFile
def u (s : String) : CpInfo := .utf8 (stringToUtf16 s)
/-- a pool by its gaps: so many unusable entries, then the entry; so many at the end -/
def gap : Nat → List CpInfo → List CpInfo
  | 0, r => r
  | n + 1, r => .unusable :: gap n r
def poolList (es : List (Nat × CpInfo)) (last : Nat) : List CpInfo := es.foldr (fun e r => gap e.1 (e.2 :: r)) (gap last [])
def pool (es : List (Nat × CpInfo)) (last : Nat) : Array CpInfo := ⟨poolList es last⟩
def fileOf (pool : Array CpInfo) (this : Nat) (attrs : Array Attribute := #[]) (ms : Array MethodInfo := #[]) (fl : Nat := 33) (sup : Nat := 0) (ifs : Array Nat := #[]) (fds : Array FieldInfo := #[]) : ClassFile where
  minorVersion := 0
  majorVersion := 65
  constantPool := pool
  accessFlags := fl
  thisClass := this
  superClass := sup
  interfaces := ifs
  fields := fds
  methods := ms
  attributes := attrs
def plain (name : String) (sup : Option ClassId) : Class where
  name := name
  kind := .ordinary
  loader := none
  accessFlags := 33
  super := sup
  interfaces := #[]
  cf := none
  fields := #[]
  methods := #[]
  instanceTypes := #[]
  staticTypes := #[]
  resolved := #[]
  callSites := []
  init := .initialized
  statics := none
  mirror := none

def pool0 : Array CpInfo := pool [(5, u "<init>"), (0, u "()V"), (1, .class_ 10), (1, u "java/lang/Object"), (0, u "getClass"), (0, u "()Ljava/lang/Class;")] 111

def k0c0 : Code := { maxStack := 0, maxLocals := 1, code := object_method_1_code, exceptionTable := #[], attributes := #[] }
def k0m0 : Method := { name := "<init>", desc := "()V", sig := { parameters := [], returnType := none }, accessFlags := 1, code := some k0c0 }
def k0m1 : Method := { name := "getClass", desc := "()Ljava/lang/Class;", sig := { parameters := [], returnType := some (.object "java/lang/Class") }, accessFlags := 273, code := none }
/-- java/lang/Object -/
def k0 : Class := { plain "java/lang/Object" none with
  accessFlags := 33
  interfaces := #[]
  cf := some (fileOf pool0 8 #[] #[{ accessFlags := 1, nameIndex := 5, descriptorIndex := 6, attributes := #[] }, { accessFlags := 273, nameIndex := 11, descriptorIndex := 12, attributes := #[] }] 33 0 #[] #[])
  fields := #[]
  methods := #[k0m0, k0m1]
  instanceTypes := #[]
  staticTypes := #[]
  resolved := Array.replicate 124 none
  statics := none }

def pool1 : Array CpInfo := pool [(2, .class_ 4), (0, .nameAndType 5 6), (0, u "java/lang/Object"), (0, u "<init>"), (0, u "()V"), (0, .class_ 8), (0, u "java/util/ArrayList"), (0, .methodref 7 3), (0, .methodref 11 12), (0, .class_ 13), (0, .nameAndType 14 15), (0, u "com/example/firm_warden/firmwarden/value/BagIsEmptyPinLaw"), (0, u "pick"), (0, u "(II)Lcom/example/firm_warden/firmwarden/value/AttributeValue;"), (0, .methodref 7 17), (0, .nameAndType 18 19), (0, u "add"), (0, u "(Ljava/lang/Object;)Z"), (0, .class_ 21), (0, u "com/example/firm_warden/firmwarden/value/Bag"), (0, .fieldref 23 24), (0, .class_ 25), (0, .nameAndType 26 27), (0, u "com/example/firm_warden/firmwarden/value/DataType"), (0, u "BOOLEAN"), (0, u "Lcom/example/firm_warden/firmwarden/value/DataType;"), (0, .methodref 20 29), (0, .nameAndType 5 30), (0, u "(Lcom/example/firm_warden/firmwarden/value/DataType;Ljava/util/List;)V"), (0, .methodref 20 32), (0, .nameAndType 33 34), (0, u "joined"), (0, u "(Lcom/example/firm_warden/firmwarden/value/DataType;Ljava/util/List;)Lcom/example/firm_warden/firmwarden/value/Bag;"), (0, .methodref 20 36), (0, .nameAndType 37 38), (0, u "isEmpty"), (0, u "()Z"), (0, .fieldref 40 41), (0, .class_ 42), (0, .nameAndType 43 44), (0, u "com/example/firm_warden/firmwarden/value/AttributeValue"), (0, u "TRUE"), (0, u "Lcom/example/firm_warden/firmwarden/value/AttributeValue;"), (0, .fieldref 40 46), (0, .nameAndType 47 44), (0, u "FALSE"), (2, u "law"), (0, u "(III)Z")] 3

def k1m0 : Method := { name := "<init>", desc := "()V", sig := { parameters := [], returnType := none }, accessFlags := 1, code := none }
def k1c1 : Code := { maxStack := 4, maxLocals := 14, code := code, exceptionTable := #[], attributes := #[] }
def k1m1 : Method := { name := "law", desc := "(III)Z", sig := { parameters := [.int, .int, .int], returnType := some .boolean }, accessFlags := 9, code := some k1c1 }
def k1c2 : Code := { maxStack := 2, maxLocals := 2, code := method_3_code, exceptionTable := #[], attributes := #[] }
def k1m2 : Method := { name := "pick", desc := "(II)Lcom/example/firm_warden/firmwarden/value/AttributeValue;", sig := { parameters := [.int, .int], returnType := some (.object "com/example/firm_warden/firmwarden/value/AttributeValue") }, accessFlags := 10, code := some k1c2 }
/-- com/example/firm_warden/firmwarden/value/BagIsEmptyPinLaw -/
def k1 : Class := { plain "com/example/firm_warden/firmwarden/value/BagIsEmptyPinLaw" (some 0) with
  accessFlags := 49
  interfaces := #[]
  cf := some (fileOf pool1 11 #[] #[{ accessFlags := 1, nameIndex := 5, descriptorIndex := 6, attributes := #[] }, { accessFlags := 9, nameIndex := 50, descriptorIndex := 51, attributes := #[] }, { accessFlags := 10, nameIndex := 14, descriptorIndex := 15, attributes := #[] }] 49 2 #[] #[])
  fields := #[]
  methods := #[k1m0, k1m1, k1m2]
  instanceTypes := #[]
  staticTypes := #[]
  resolved := Array.replicate 55 none
  statics := none }

def pool2 : Array CpInfo := pool [(8, .class_ 10), (1, u "java/lang/Iterable"), (24, .class_ 36), (0, u "java/lang/Object")] 25

/-- java/lang/Iterable -/
def k2 : Class := { plain "java/lang/Iterable" (some 0) with
  accessFlags := 1537
  interfaces := #[]
  cf := some (fileOf pool2 8 #[] #[] 1537 35 #[] #[])
  fields := #[]
  methods := #[]
  instanceTypes := #[]
  staticTypes := #[]
  resolved := Array.replicate 62 none
  statics := none }

def pool3 : Array CpInfo := pool [(10, .class_ 12), (1, u "java/util/Collection"), (0, u "toArray"), (16, u "()Z"), (29, .class_ 61), (0, u "java/lang/Object"), (0, .class_ 63), (0, u "java/lang/Iterable"), (2, u "isEmpty"), (3, u "()[Ljava/lang/Object;")] 44

def k3m0 : Method := { name := "isEmpty", desc := "()Z", sig := { parameters := [], returnType := some .boolean }, accessFlags := 1025, code := none }
def k3m1 : Method := { name := "toArray", desc := "()[Ljava/lang/Object;", sig := { parameters := [], returnType := some (.array (.object "java/lang/Object")) }, accessFlags := 1025, code := none }
/-- java/util/Collection -/
def k3 : Class := { plain "java/util/Collection" (some 0) with
  accessFlags := 1537
  interfaces := #[2]
  cf := some (fileOf pool3 10 #[] #[{ accessFlags := 1025, nameIndex := 66, descriptorIndex := 30, attributes := #[] }, { accessFlags := 1025, nameIndex := 13, descriptorIndex := 70, attributes := #[] }] 1537 60 #[62] #[])
  fields := #[]
  methods := #[k3m0, k3m1]
  instanceTypes := #[]
  staticTypes := #[]
  resolved := Array.replicate 115 none
  statics := none }

def pool4 : Array CpInfo := pool [(1, .methodref 2 3), (0, .class_ 4), (0, .nameAndType 5 6), (0, u "java/lang/Object"), (0, u "<init>"), (0, u "()V"), (1, .class_ 10), (1, u "java/util/AbstractCollection"), (0, u "size"), (0, u "()I"), (64, .class_ 78), (0, u "java/util/Collection")] 81

def k4c0 : Code := { maxStack := 1, maxLocals := 1, code := jdk_22_method_1_code, exceptionTable := #[], attributes := #[] }
def k4m0 : Method := { name := "<init>", desc := "()V", sig := { parameters := [], returnType := none }, accessFlags := 4, code := some k4c0 }
def k4m1 : Method := { name := "size", desc := "()I", sig := { parameters := [], returnType := some .int }, accessFlags := 1025, code := none }
/-- java/util/AbstractCollection -/
def k4 : Class := { plain "java/util/AbstractCollection" (some 0) with
  accessFlags := 1057
  interfaces := #[3]
  cf := some (fileOf pool4 8 #[] #[{ accessFlags := 4, nameIndex := 5, descriptorIndex := 6, attributes := #[] }, { accessFlags := 1025, nameIndex := 11, descriptorIndex := 12, attributes := #[] }] 1057 2 #[77] #[])
  fields := #[]
  methods := #[k4m0, k4m1]
  instanceTypes := #[]
  staticTypes := #[]
  resolved := Array.replicate 160 none
  statics := none }

def pool5 : Array CpInfo := pool [(8, .class_ 10), (1, u "java/util/SequencedCollection"), (15, .class_ 27), (0, u "java/lang/Object"), (0, .class_ 29), (0, u "java/util/Collection")] 27

/-- java/util/SequencedCollection -/
def k5 : Class := { plain "java/util/SequencedCollection" (some 0) with
  accessFlags := 1537
  interfaces := #[3]
  cf := some (fileOf pool5 8 #[] #[] 1537 26 #[28] #[])
  fields := #[]
  methods := #[]
  instanceTypes := #[]
  staticTypes := #[]
  resolved := Array.replicate 57 none
  statics := none }

def pool6 : Array CpInfo := pool [(8, .class_ 10), (1, u "java/util/List"), (20, u "(Ljava/lang/Object;)V"), (16, u "<init>"), (11, u "add"), (3, u "(Ljava/lang/Object;)Z"), (10, u "get"), (0, u "(I)Ljava/lang/Object;"), (2, u "size"), (0, u "()I"), (7, u "of"), (1, .fieldref 91 92), (0, .class_ 93), (0, .nameAndType 94 95), (0, u "java/util/ImmutableCollections"), (0, u "EMPTY_LIST"), (0, u "Ljava/util/ImmutableCollections$ListN;"), (0, .class_ 97), (0, u "java/util/ImmutableCollections$List12"), (0, .methodref 96 99), (0, .nameAndType 48 31), (0, .methodref 96 101), (0, .nameAndType 48 102), (0, u "(Ljava/lang/Object;Ljava/lang/Object;)V"), (0, .class_ 104), (0, u "java/lang/Object"), (3, u "([Ljava/lang/Object;)Ljava/util/List;"), (0, .methodref 91 110), (0, .nameAndType 111 108), (0, u "listFromArray"), (0, .methodref 91 113), (0, .nameAndType 114 115), (0, u "listCopy"), (0, u "(Ljava/util/Collection;)Ljava/util/List;"), (3, u "()Ljava/util/List;"), (0, .class_ 121), (0, u "java/util/SequencedCollection"), (1, u "iterator"), (0, u "()Ljava/util/Iterator;"), (109, u "copyOf")] 16

def k6m0 : Method := { name := "size", desc := "()I", sig := { parameters := [], returnType := some .int }, accessFlags := 1025, code := none }
def k6m1 : Method := { name := "iterator", desc := "()Ljava/util/Iterator;", sig := { parameters := [], returnType := some (.object "java/util/Iterator") }, accessFlags := 1025, code := none }
def k6m2 : Method := { name := "add", desc := "(Ljava/lang/Object;)Z", sig := { parameters := [(.object "java/lang/Object")], returnType := some .boolean }, accessFlags := 1025, code := none }
def k6m3 : Method := { name := "get", desc := "(I)Ljava/lang/Object;", sig := { parameters := [.int], returnType := some (.object "java/lang/Object") }, accessFlags := 1025, code := none }
def k6c4 : Code := { maxStack := 1, maxLocals := 0, code := jdk_40_method_36_code, exceptionTable := #[], attributes := #[] }
def k6m4 : Method := { name := "of", desc := "()Ljava/util/List;", sig := { parameters := [], returnType := some (.object "java/util/List") }, accessFlags := 9, code := some k6c4 }
def k6c5 : Code := { maxStack := 5, maxLocals := 2, code := jdk_40_method_47_code, exceptionTable := #[], attributes := #[] }
def k6m5 : Method := { name := "of", desc := "([Ljava/lang/Object;)Ljava/util/List;", sig := { parameters := [(.array (.object "java/lang/Object"))], returnType := some (.object "java/util/List") }, accessFlags := 137, code := some k6c5 }
def k6c6 : Code := { maxStack := 1, maxLocals := 1, code := jdk_40_method_48_code, exceptionTable := #[], attributes := #[] }
def k6m6 : Method := { name := "copyOf", desc := "(Ljava/util/Collection;)Ljava/util/List;", sig := { parameters := [(.object "java/util/Collection")], returnType := some (.object "java/util/List") }, accessFlags := 9, code := some k6c6 }
/-- java/util/List -/
def k6 : Class := { plain "java/util/List" (some 0) with
  accessFlags := 1537
  interfaces := #[5]
  cf := some (fileOf pool6 8 #[] #[{ accessFlags := 1025, nameIndex := 79, descriptorIndex := 80, attributes := #[] }, { accessFlags := 1025, nameIndex := 123, descriptorIndex := 124, attributes := #[] }, { accessFlags := 1025, nameIndex := 60, descriptorIndex := 64, attributes := #[] }, { accessFlags := 1025, nameIndex := 75, descriptorIndex := 76, attributes := #[] }, { accessFlags := 9, nameIndex := 88, descriptorIndex := 119, attributes := #[] }, { accessFlags := 137, nameIndex := 88, descriptorIndex := 108, attributes := #[] }, { accessFlags := 9, nameIndex := 234, descriptorIndex := 115, attributes := #[] }] 1537 103 #[120] #[])
  fields := #[]
  methods := #[k6m0, k6m1, k6m2, k6m3, k6m4, k6m5, k6m6]
  instanceTypes := #[]
  staticTypes := #[]
  resolved := Array.replicate 251 none
  statics := none }

def pool7 : Array CpInfo := pool [(1, .methodref 2 3), (0, .class_ 4), (0, .nameAndType 5 6), (0, u "java/util/AbstractCollection"), (0, u "<init>"), (0, u "()V"), (0, .fieldref 8 9), (0, .class_ 10), (0, .nameAndType 11 12), (0, u "java/util/AbstractList"), (0, u "modCount"), (0, u "I"), (64, .class_ 78), (0, u "java/util/AbstractList$Itr"), (3, .class_ 83), (0, u "java/util/AbstractList$ListItr"), (9, .class_ 94), (0, u "java/util/AbstractList$RandomAccessSubList"), (3, .class_ 99), (0, u "java/util/AbstractList$SubList"), (33, .class_ 134), (0, u "java/util/List"), (73, .class_ 209), (0, u "java/util/AbstractList$SubList$1"), (0, .class_ 211), (0, u "java/util/AbstractList$RandomAccessSpliterator")] 6

def k7c0 : Code := { maxStack := 2, maxLocals := 1, code := jdk_39_method_1_code, exceptionTable := #[], attributes := #[] }
def k7m0 : Method := { name := "<init>", desc := "()V", sig := { parameters := [], returnType := none }, accessFlags := 4, code := some k7c0 }
/-- java/util/AbstractList -/
def k7 : Class := { plain "java/util/AbstractList" (some 4) with
  accessFlags := 1057
  interfaces := #[6]
  cf := some (fileOf pool7 8 #[.nestMembers #[93, 98, 208, 210, 82, 77]] #[{ accessFlags := 4, nameIndex := 5, descriptorIndex := 6, attributes := #[] }] 1057 2 #[133] #[{ accessFlags := 132, nameIndex := 11, descriptorIndex := 12, attributes := #[] }])
  fields := #[{ name := "modCount", type := .int, accessFlags := 132, slot := 0, constantValue := 0 }]
  methods := #[k7m0]
  instanceTypes := #[.int]
  staticTypes := #[]
  resolved := Array.replicate 218 none
  statics := none }

def pool8 : Array CpInfo := pool [(1, .class_ 2), (0, u "java/util/RandomAccess"), (0, .class_ 4), (0, u "java/lang/Object")] 2

/-- java/util/RandomAccess -/
def k8 : Class := { plain "java/util/RandomAccess" (some 0) with
  accessFlags := 1537
  interfaces := #[]
  cf := some (fileOf pool8 1 #[] #[] 1537 3 #[] #[])
  fields := #[]
  methods := #[]
  instanceTypes := #[]
  staticTypes := #[]
  resolved := Array.replicate 7 none
  statics := none }

def pool9 : Array CpInfo := pool [(1, .class_ 2), (0, u "java/lang/Cloneable"), (0, .class_ 4), (0, u "java/lang/Object")] 2

/-- java/lang/Cloneable -/
def k9 : Class := { plain "java/lang/Cloneable" (some 0) with
  accessFlags := 1537
  interfaces := #[]
  cf := some (fileOf pool9 1 #[] #[] 1537 3 #[] #[])
  fields := #[]
  methods := #[]
  instanceTypes := #[]
  staticTypes := #[]
  resolved := Array.replicate 7 none
  statics := none }

def pool10 : Array CpInfo := pool [(1, .class_ 2), (0, u "java/io/Serializable"), (0, .class_ 4), (0, u "java/lang/Object")] 2

/-- java/io/Serializable -/
def k10 : Class := { plain "java/io/Serializable" (some 0) with
  accessFlags := 1537
  interfaces := #[]
  cf := some (fileOf pool10 1 #[] #[] 1537 3 #[] #[])
  fields := #[]
  methods := #[]
  instanceTypes := #[]
  staticTypes := #[]
  resolved := Array.replicate 7 none
  statics := none }

def pool11 : Array CpInfo := pool [(1, .methodref 2 3), (0, .class_ 4), (0, .nameAndType 5 6), (0, u "java/util/AbstractList"), (0, u "<init>"), (0, u "()V"), (0, .class_ 8), (0, u "java/lang/Object"), (0, .fieldref 10 11), (0, .class_ 12), (0, .nameAndType 13 14), (0, u "java/util/ArrayList"), (0, u "elementData"), (0, u "[Ljava/lang/Object;"), (2, u "EMPTY_ELEMENTDATA"), (21, .fieldref 10 40), (0, .nameAndType 41 14), (0, u "DEFAULTCAPACITY_EMPTY_ELEMENTDATA"), (4, u "toArray"), (0, u "()[Ljava/lang/Object;"), (0, .fieldref 10 49), (0, .nameAndType 50 51), (0, u "size"), (0, u "I"), (6, .class_ 60), (1, u "java/util/Arrays"), (0, u "copyOf"), (1, .fieldref 10 64), (0, .nameAndType 65 51), (0, u "modCount"), (0, .methodref 58 67), (0, .nameAndType 61 68), (0, u "([Ljava/lang/Object;I)[Ljava/lang/Object;"), (0, .methodref 10 70), (0, .nameAndType 71 72), (0, u "grow"), (0, u "(I)[Ljava/lang/Object;"), (6, .methodref 80 81), (0, .class_ 82), (0, .nameAndType 83 84), (0, u "java/lang/Math"), (0, u "max"), (0, u "(II)I"), (11, u "(Ljava/lang/Object;)Z"), (21, .methodref 119 120), (0, .class_ 121), (0, .nameAndType 122 84), (0, u "java/util/Objects"), (0, u "checkIndex"), (0, .methodref 10 124), (0, .nameAndType 13 125), (0, u "(I)Ljava/lang/Object;"), (3, .methodref 10 130), (0, .nameAndType 71 47), (0, .methodref 10 132), (0, .nameAndType 133 134), (0, u "add"), (0, u "(Ljava/lang/Object;[Ljava/lang/Object;I)V"), (3, u "(I)V"), (9, .class_ 149), (0, u "java/util/List"), (16, u "iterator"), (0, u "()Ljava/util/Iterator;"), (5, u "()Z"), (12, u "()I"), (75, .class_ 263), (0, u "java/util/ArrayList$ListItr"), (3, .class_ 268), (0, u "java/util/ArrayList$Itr"), (0, .methodref 267 270), (0, .nameAndType 5 271), (0, u "(Ljava/util/ArrayList;)V"), (4, .class_ 277), (0, u "java/util/ArrayList$SubList"), (12, .class_ 291), (0, u "java/util/ArrayList$ArrayListSpliterator"), (37, .class_ 330), (0, u "java/util/RandomAccess"), (0, .class_ 332), (0, u "java/lang/Cloneable"), (0, .class_ 334), (0, u "java/io/Serializable"), (0, u "serialVersionUID"), (0, u "J"), (3, u "DEFAULT_CAPACITY"), (22, u "isEmpty"), (17, u "get"), (118, .class_ 501), (0, u "java/util/ArrayList$SubList$2"), (0, .class_ 503), (0, u "java/util/ArrayList$SubList$1")] 5

def k11c0 : Code := { maxStack := 4, maxLocals := 2, code := jdk_38_method_1_code, exceptionTable := #[], attributes := #[] }
def k11m0 : Method := { name := "<init>", desc := "(I)V", sig := { parameters := [.int], returnType := none }, accessFlags := 1, code := some k11c0 }
def k11c1 : Code := { maxStack := 2, maxLocals := 1, code := jdk_38_method_2_code, exceptionTable := #[], attributes := #[] }
def k11m1 : Method := { name := "<init>", desc := "()V", sig := { parameters := [], returnType := none }, accessFlags := 1, code := some k11c1 }
def k11c2 : Code := { maxStack := 4, maxLocals := 4, code := jdk_38_method_6_code, exceptionTable := #[], attributes := #[] }
def k11m2 : Method := { name := "grow", desc := "(I)[Ljava/lang/Object;", sig := { parameters := [.int], returnType := some (.array (.object "java/lang/Object")) }, accessFlags := 2, code := some k11c2 }
def k11c3 : Code := { maxStack := 3, maxLocals := 1, code := jdk_38_method_7_code, exceptionTable := #[], attributes := #[] }
def k11m3 : Method := { name := "grow", desc := "()[Ljava/lang/Object;", sig := { parameters := [], returnType := some (.array (.object "java/lang/Object")) }, accessFlags := 2, code := some k11c3 }
def k11c4 : Code := { maxStack := 1, maxLocals := 1, code := jdk_38_method_8_code, exceptionTable := #[], attributes := #[] }
def k11m4 : Method := { name := "size", desc := "()I", sig := { parameters := [], returnType := some .int }, accessFlags := 1, code := some k11c4 }
def k11c5 : Code := { maxStack := 1, maxLocals := 1, code := jdk_38_method_9_code, exceptionTable := #[], attributes := #[] }
def k11m5 : Method := { name := "isEmpty", desc := "()Z", sig := { parameters := [], returnType := some .boolean }, accessFlags := 1, code := some k11c5 }
def k11c6 : Code := { maxStack := 2, maxLocals := 1, code := jdk_38_method_16_code, exceptionTable := #[], attributes := #[] }
def k11m6 : Method := { name := "toArray", desc := "()[Ljava/lang/Object;", sig := { parameters := [], returnType := some (.array (.object "java/lang/Object")) }, accessFlags := 1, code := some k11c6 }
def k11c7 : Code := { maxStack := 2, maxLocals := 2, code := jdk_38_method_18_code, exceptionTable := #[], attributes := #[] }
def k11m7 : Method := { name := "elementData", desc := "(I)Ljava/lang/Object;", sig := { parameters := [.int], returnType := some (.object "java/lang/Object") }, accessFlags := 0, code := some k11c7 }
def k11c8 : Code := { maxStack := 2, maxLocals := 2, code := jdk_38_method_20_code, exceptionTable := #[], attributes := #[] }
def k11m8 : Method := { name := "get", desc := "(I)Ljava/lang/Object;", sig := { parameters := [.int], returnType := some (.object "java/lang/Object") }, accessFlags := 1, code := some k11c8 }
def k11c9 : Code := { maxStack := 3, maxLocals := 4, code := jdk_38_method_24_code, exceptionTable := #[], attributes := #[] }
def k11m9 : Method := { name := "add", desc := "(Ljava/lang/Object;[Ljava/lang/Object;I)V", sig := { parameters := [(.object "java/lang/Object"), (.array (.object "java/lang/Object")), .int], returnType := none }, accessFlags := 2, code := some k11c9 }
def k11c10 : Code := { maxStack := 4, maxLocals := 2, code := jdk_38_method_25_code, exceptionTable := #[], attributes := #[] }
def k11m10 : Method := { name := "add", desc := "(Ljava/lang/Object;)Z", sig := { parameters := [(.object "java/lang/Object")], returnType := some .boolean }, accessFlags := 1, code := some k11c10 }
def k11c11 : Code := { maxStack := 3, maxLocals := 1, code := jdk_38_method_55_code, exceptionTable := #[], attributes := #[] }
def k11m11 : Method := { name := "iterator", desc := "()Ljava/util/Iterator;", sig := { parameters := [], returnType := some (.object "java/util/Iterator") }, accessFlags := 1, code := some k11c11 }
/-- java/util/ArrayList -/
def k11 : Class := { plain "java/util/ArrayList" (some 7) with
  accessFlags := 33
  interfaces := #[6, 8, 9, 10]
  cf := some (fileOf pool11 10 #[.nestMembers #[290, 276, 500, 502, 262, 267]] #[{ accessFlags := 1, nameIndex := 5, descriptorIndex := 138, attributes := #[] }, { accessFlags := 1, nameIndex := 5, descriptorIndex := 6, attributes := #[] }, { accessFlags := 2, nameIndex := 71, descriptorIndex := 72, attributes := #[] }, { accessFlags := 2, nameIndex := 71, descriptorIndex := 47, attributes := #[] }, { accessFlags := 1, nameIndex := 50, descriptorIndex := 186, attributes := #[] }, { accessFlags := 1, nameIndex := 363, descriptorIndex := 173, attributes := #[] }, { accessFlags := 1, nameIndex := 46, descriptorIndex := 47, attributes := #[] }, { accessFlags := 0, nameIndex := 13, descriptorIndex := 125, attributes := #[] }, { accessFlags := 1, nameIndex := 381, descriptorIndex := 125, attributes := #[] }, { accessFlags := 2, nameIndex := 133, descriptorIndex := 134, attributes := #[] }, { accessFlags := 1, nameIndex := 133, descriptorIndex := 96, attributes := #[] }, { accessFlags := 1, nameIndex := 166, descriptorIndex := 167, attributes := #[] }] 33 2 #[148, 329, 331, 333] #[{ accessFlags := 26, nameIndex := 335, descriptorIndex := 336, attributes := #[] }, { accessFlags := 26, nameIndex := 340, descriptorIndex := 51, attributes := #[] }, { accessFlags := 26, nameIndex := 17, descriptorIndex := 14, attributes := #[] }, { accessFlags := 26, nameIndex := 41, descriptorIndex := 14, attributes := #[] }, { accessFlags := 128, nameIndex := 13, descriptorIndex := 14, attributes := #[] }, { accessFlags := 2, nameIndex := 50, descriptorIndex := 51, attributes := #[] }])
  fields := #[{ name := "serialVersionUID", type := .long, accessFlags := 26, slot := 0, constantValue := 0 }, { name := "DEFAULT_CAPACITY", type := .int, accessFlags := 26, slot := 1, constantValue := 0 }, { name := "EMPTY_ELEMENTDATA", type := (.array (.object "java/lang/Object")), accessFlags := 26, slot := 2, constantValue := 0 }, { name := "DEFAULTCAPACITY_EMPTY_ELEMENTDATA", type := (.array (.object "java/lang/Object")), accessFlags := 26, slot := 3, constantValue := 0 }, { name := "elementData", type := (.array (.object "java/lang/Object")), accessFlags := 128, slot := 1, constantValue := 0 }, { name := "size", type := .int, accessFlags := 2, slot := 2, constantValue := 0 }]
  methods := #[k11m0, k11m1, k11m2, k11m3, k11m4, k11m5, k11m6, k11m7, k11m8, k11m9, k11m10, k11m11]
  instanceTypes := #[.int, (.array (.object "java/lang/Object")), .int]
  staticTypes := #[.long, .int, (.array (.object "java/lang/Object")), (.array (.object "java/lang/Object"))]
  resolved := Array.replicate 509 none
  statics := some 0 }

def pool12 : Array CpInfo := pool [(1, .class_ 2), (0, u "com/example/firm_warden/firmwarden/value/Value"), (0, .class_ 4), (0, u "java/lang/Object")] 9

/-- com/example/firm_warden/firmwarden/value/Value -/
def k12 : Class := { plain "com/example/firm_warden/firmwarden/value/Value" (some 0) with
  accessFlags := 1537
  interfaces := #[]
  cf := some (fileOf pool12 1 #[] #[] 1537 3 #[] #[])
  fields := #[]
  methods := #[]
  instanceTypes := #[]
  staticTypes := #[]
  resolved := Array.replicate 14 none
  statics := none }

def pool13 : Array CpInfo := pool [(2, .class_ 4), (1, u "java/lang/Object"), (10, .fieldref 16 17), (0, .class_ 18), (0, .nameAndType 19 20), (0, u "com/example/firm_warden/firmwarden/value/AttributeValue"), (0, u "dataType"), (0, u "Lcom/example/firm_warden/firmwarden/value/DataType;"), (2, u "value"), (0, u "Ljava/lang/Object;"), (4, u "text"), (0, u "Ljava/lang/String;"), (2, u "TRUE"), (0, u "Lcom/example/firm_warden/firmwarden/value/AttributeValue;"), (2, u "FALSE"), (122, .class_ 161), (0, u "com/example/firm_warden/firmwarden/value/Value"), (13, u "()Lcom/example/firm_warden/firmwarden/value/DataType;")] 23

def k13c0 : Code := { maxStack := 1, maxLocals := 1, code := prog_166_method_11_code, exceptionTable := #[], attributes := #[] }
def k13m0 : Method := { name := "dataType", desc := "()Lcom/example/firm_warden/firmwarden/value/DataType;", sig := { parameters := [], returnType := some (.object "com/example/firm_warden/firmwarden/value/DataType") }, accessFlags := 1, code := some k13c0 }
/-- com/example/firm_warden/firmwarden/value/AttributeValue -/
def k13 : Class := { plain "com/example/firm_warden/firmwarden/value/AttributeValue" (some 0) with
  accessFlags := 49
  interfaces := #[12]
  cf := some (fileOf pool13 16 #[] #[{ accessFlags := 1, nameIndex := 19, descriptorIndex := 175, attributes := #[] }] 49 2 #[160] #[{ accessFlags := 25, nameIndex := 33, descriptorIndex := 34, attributes := #[] }, { accessFlags := 25, nameIndex := 37, descriptorIndex := 34, attributes := #[] }, { accessFlags := 18, nameIndex := 19, descriptorIndex := 20, attributes := #[] }, { accessFlags := 18, nameIndex := 23, descriptorIndex := 24, attributes := #[] }, { accessFlags := 18, nameIndex := 29, descriptorIndex := 30, attributes := #[] }])
  fields := #[{ name := "TRUE", type := (.object "com/example/firm_warden/firmwarden/value/AttributeValue"), accessFlags := 25, slot := 0, constantValue := 0 }, { name := "FALSE", type := (.object "com/example/firm_warden/firmwarden/value/AttributeValue"), accessFlags := 25, slot := 1, constantValue := 0 }, { name := "dataType", type := (.object "com/example/firm_warden/firmwarden/value/DataType"), accessFlags := 18, slot := 0, constantValue := 0 }, { name := "value", type := (.object "java/lang/Object"), accessFlags := 18, slot := 1, constantValue := 0 }, { name := "text", type := (.object "java/lang/String"), accessFlags := 18, slot := 2, constantValue := 0 }]
  methods := #[k13m0]
  instanceTypes := #[(.object "com/example/firm_warden/firmwarden/value/DataType"), (.object "java/lang/Object"), (.object "java/lang/String")]
  staticTypes := #[(.object "com/example/firm_warden/firmwarden/value/AttributeValue"), (.object "com/example/firm_warden/firmwarden/value/AttributeValue")]
  resolved := Array.replicate 199 none
  statics := some 1 }

def pool14 : Array CpInfo := pool [(1, .class_ 2), (0, u "java/lang/Math"), (1, .class_ 6), (1, u "java/lang/Object"), (0, u "<init>"), (0, u "()V"), (89, .class_ 100), (1, u "java/lang/Math$RandomNumberGeneratorHolder"), (71, u "negativeZeroFloatBits"), (0, u "J"), (2, u "negativeZeroDoubleBits"), (21, u "max"), (2, u "min"), (43, u "$assertionsDisabled"), (0, u "Z"), (88, u "(II)I"), (2, u "twoToTheDoubleScaleDown"), (0, u "D"), (4, u "twoToTheDoubleScaleUp"), (9, u "E"), (3, u "PI"), (2, u "TAU"), (2, u "DEGREES_TO_RADIANS"), (0, u "RADIANS_TO_DEGREES")] 94

def k14m0 : Method := { name := "<init>", desc := "()V", sig := { parameters := [], returnType := none }, accessFlags := 2, code := none }
def k14c1 : Code := { maxStack := 2, maxLocals := 2, code := jdk_29_method_65_code, exceptionTable := #[], attributes := #[] }
def k14m1 : Method := { name := "max", desc := "(II)I", sig := { parameters := [.int, .int], returnType := some .int }, accessFlags := 9, code := some k14c1 }
def k14c2 : Code := { maxStack := 2, maxLocals := 2, code := jdk_29_method_69_code, exceptionTable := #[], attributes := #[] }
def k14m2 : Method := { name := "min", desc := "(II)I", sig := { parameters := [.int, .int], returnType := some .int }, accessFlags := 9, code := some k14c2 }
/-- java/lang/Math -/
def k14 : Class := { plain "java/lang/Math" (some 0) with
  accessFlags := 49
  interfaces := #[]
  cf := some (fileOf pool14 1 #[.nestMembers #[98]] #[{ accessFlags := 2, nameIndex := 7, descriptorIndex := 8, attributes := #[] }, { accessFlags := 9, nameIndex := 198, descriptorIndex := 335, attributes := #[] }, { accessFlags := 9, nameIndex := 201, descriptorIndex := 335, attributes := #[] }] 49 4 #[] #[{ accessFlags := 25, nameIndex := 354, descriptorIndex := 339, attributes := #[] }, { accessFlags := 25, nameIndex := 358, descriptorIndex := 339, attributes := #[] }, { accessFlags := 25, nameIndex := 361, descriptorIndex := 339, attributes := #[] }, { accessFlags := 26, nameIndex := 364, descriptorIndex := 339, attributes := #[] }, { accessFlags := 26, nameIndex := 365, descriptorIndex := 339, attributes := #[] }, { accessFlags := 26, nameIndex := 172, descriptorIndex := 173, attributes := #[] }, { accessFlags := 26, nameIndex := 176, descriptorIndex := 173, attributes := #[] }, { accessFlags := 8, nameIndex := 344, descriptorIndex := 339, attributes := #[] }, { accessFlags := 8, nameIndex := 338, descriptorIndex := 339, attributes := #[] }, { accessFlags := 4120, nameIndex := 245, descriptorIndex := 246, attributes := #[] }])
  fields := #[{ name := "E", type := .double, accessFlags := 25, slot := 0, constantValue := 0 }, { name := "PI", type := .double, accessFlags := 25, slot := 1, constantValue := 0 }, { name := "TAU", type := .double, accessFlags := 25, slot := 2, constantValue := 0 }, { name := "DEGREES_TO_RADIANS", type := .double, accessFlags := 26, slot := 3, constantValue := 0 }, { name := "RADIANS_TO_DEGREES", type := .double, accessFlags := 26, slot := 4, constantValue := 0 }, { name := "negativeZeroFloatBits", type := .long, accessFlags := 26, slot := 5, constantValue := 0 }, { name := "negativeZeroDoubleBits", type := .long, accessFlags := 26, slot := 6, constantValue := 0 }, { name := "twoToTheDoubleScaleUp", type := .double, accessFlags := 8, slot := 7, constantValue := 0 }, { name := "twoToTheDoubleScaleDown", type := .double, accessFlags := 8, slot := 8, constantValue := 0 }, { name := "$assertionsDisabled", type := .boolean, accessFlags := 4120, slot := 9, constantValue := 0 }]
  methods := #[k14m0, k14m1, k14m2]
  instanceTypes := #[]
  staticTypes := #[.double, .double, .double, .double, .double, .long, .long, .double, .double, .boolean]
  resolved := Array.replicate 460 none
  statics := none }

def pool15 : Array CpInfo := pool [(1, .methodref 2 3), (0, .class_ 4), (0, .nameAndType 5 6), (0, u "java/lang/Object"), (0, u "<init>"), (0, u "()V"), (0, .methodref 8 9), (0, .class_ 10), (0, .nameAndType 11 12), (0, u "java/util/Objects"), (0, u "requireNonNull"), (0, u "(Ljava/lang/Object;)Ljava/lang/Object;"), (0, .class_ 14), (0, u "com/example/firm_warden/firmwarden/value/DataType"), (0, .fieldref 16 17), (0, .class_ 18), (0, .nameAndType 19 20), (0, u "com/example/firm_warden/firmwarden/value/Bag"), (0, u "dataType"), (0, u "Lcom/example/firm_warden/firmwarden/value/DataType;"), (0, .interfaceMethodref 22 23), (0, .class_ 24), (0, .nameAndType 25 26), (0, u "java/util/List"), (0, u "copyOf"), (0, u "(Ljava/util/Collection;)Ljava/util/List;"), (0, .fieldref 16 28), (0, .nameAndType 29 30), (0, u "values"), (0, u "Ljava/util/List;"), (0, .interfaceMethodref 22 32), (0, .nameAndType 33 34), (0, u "size"), (0, u "()I"), (0, .fieldref 16 36), (0, .nameAndType 33 37), (0, u "I"), (0, .fieldref 16 39), (0, .nameAndType 40 30), (0, u "parts"), (0, .interfaceMethodref 22 42), (0, .nameAndType 43 44), (0, u "iterator"), (0, u "()Ljava/util/Iterator;"), (0, .interfaceMethodref 46 47), (0, .class_ 48), (0, .nameAndType 49 50), (0, u "java/util/Iterator"), (0, u "hasNext"), (0, u "()Z"), (0, .interfaceMethodref 46 52), (0, .nameAndType 53 54), (0, u "next"), (0, u "()Ljava/lang/Object;"), (0, .class_ 56), (0, u "com/example/firm_warden/firmwarden/value/AttributeValue"), (0, .methodref 55 58), (0, .nameAndType 19 59), (0, u "()Lcom/example/firm_warden/firmwarden/value/DataType;"), (19, .class_ 80), (0, u "java/util/ArrayList"), (0, .methodref 79 82), (0, .nameAndType 5 83), (0, u "(I)V"), (5, .methodref 16 90), (0, .nameAndType 91 50), (0, u "isEmpty"), (0, .interfaceMethodref 22 93), (0, .nameAndType 94 95), (0, u "add"), (0, u "(Ljava/lang/Object;)Z"), (0, .interfaceMethodref 22 97), (0, .nameAndType 98 99), (0, u "get"), (0, u "(I)Ljava/lang/Object;"), (0, .methodref 16 101), (0, .nameAndType 5 102), (0, u "(Lcom/example/firm_warden/firmwarden/value/DataType;Ljava/util/List;I)V"), (2, u "joinedValues"), (10, .class_ 117), (0, u "com/example/firm_warden/firmwarden/value/Value"), (3, u "(Lcom/example/firm_warden/firmwarden/value/DataType;Ljava/util/List;)V"), (5, u "joined"), (0, u "(Lcom/example/firm_warden/firmwarden/value/DataType;Ljava/util/List;)Lcom/example/firm_warden/firmwarden/value/Bag;")] 25

def k15c0 : Code := { maxStack := 4, maxLocals := 5, code := prog_167_method_1_code, exceptionTable := #[], attributes := #[] }
def k15m0 : Method := { name := "<init>", desc := "(Lcom/example/firm_warden/firmwarden/value/DataType;Ljava/util/List;)V", sig := { parameters := [(.object "com/example/firm_warden/firmwarden/value/DataType"), (.object "java/util/List")], returnType := none }, accessFlags := 1, code := some k15c0 }
def k15c1 : Code := { maxStack := 2, maxLocals := 4, code := prog_167_method_2_code, exceptionTable := #[], attributes := #[] }
def k15m1 : Method := { name := "<init>", desc := "(Lcom/example/firm_warden/firmwarden/value/DataType;Ljava/util/List;I)V", sig := { parameters := [(.object "com/example/firm_warden/firmwarden/value/DataType"), (.object "java/util/List"), .int], returnType := none }, accessFlags := 2, code := some k15c1 }
def k15c2 : Code := { maxStack := 5, maxLocals := 6, code := prog_167_method_3_code, exceptionTable := #[], attributes := #[] }
def k15m2 : Method := { name := "joined", desc := "(Lcom/example/firm_warden/firmwarden/value/DataType;Ljava/util/List;)Lcom/example/firm_warden/firmwarden/value/Bag;", sig := { parameters := [(.object "com/example/firm_warden/firmwarden/value/DataType"), (.object "java/util/List")], returnType := some (.object "com/example/firm_warden/firmwarden/value/Bag") }, accessFlags := 9, code := some k15c2 }
def k15c3 : Code := { maxStack := 1, maxLocals := 1, code := prog_167_method_8_code, exceptionTable := #[], attributes := #[] }
def k15m3 : Method := { name := "isEmpty", desc := "()Z", sig := { parameters := [], returnType := some .boolean }, accessFlags := 1, code := some k15c3 }
/-- com/example/firm_warden/firmwarden/value/Bag -/
def k15 : Class := { plain "com/example/firm_warden/firmwarden/value/Bag" (some 0) with
  accessFlags := 49
  interfaces := #[12]
  cf := some (fileOf pool15 16 #[] #[{ accessFlags := 1, nameIndex := 5, descriptorIndex := 121, attributes := #[] }, { accessFlags := 2, nameIndex := 5, descriptorIndex := 102, attributes := #[] }, { accessFlags := 9, nameIndex := 127, descriptorIndex := 128, attributes := #[] }, { accessFlags := 1, nameIndex := 91, descriptorIndex := 50, attributes := #[] }] 49 2 #[116] #[{ accessFlags := 18, nameIndex := 19, descriptorIndex := 20, attributes := #[] }, { accessFlags := 18, nameIndex := 33, descriptorIndex := 37, attributes := #[] }, { accessFlags := 18, nameIndex := 29, descriptorIndex := 30, attributes := #[] }, { accessFlags := 18, nameIndex := 40, descriptorIndex := 30, attributes := #[] }, { accessFlags := 2, nameIndex := 105, descriptorIndex := 30, attributes := #[] }])
  fields := #[{ name := "dataType", type := (.object "com/example/firm_warden/firmwarden/value/DataType"), accessFlags := 18, slot := 0, constantValue := 0 }, { name := "size", type := .int, accessFlags := 18, slot := 1, constantValue := 0 }, { name := "values", type := (.object "java/util/List"), accessFlags := 18, slot := 2, constantValue := 0 }, { name := "parts", type := (.object "java/util/List"), accessFlags := 18, slot := 3, constantValue := 0 }, { name := "joinedValues", type := (.object "java/util/List"), accessFlags := 2, slot := 4, constantValue := 0 }]
  methods := #[k15m0, k15m1, k15m2, k15m3]
  instanceTypes := #[(.object "com/example/firm_warden/firmwarden/value/DataType"), .int, (.object "java/util/List"), (.object "java/util/List"), (.object "java/util/List")]
  staticTypes := #[]
  resolved := Array.replicate 154 none
  statics := none }

def pool16 : Array CpInfo := pool [(1, .class_ 2), (0, u "java/lang/constant/Constable"), (0, .class_ 4), (0, u "java/lang/Object")] 6

/-- java/lang/constant/Constable -/
def k16 : Class := { plain "java/lang/constant/Constable" (some 0) with
  accessFlags := 1537
  interfaces := #[]
  cf := some (fileOf pool16 1 #[] #[] 1537 3 #[] #[])
  fields := #[]
  methods := #[]
  instanceTypes := #[]
  staticTypes := #[]
  resolved := Array.replicate 11 none
  statics := none }

def pool17 : Array CpInfo := pool [(1, .class_ 2), (0, u "java/lang/Comparable"), (0, .class_ 4), (0, u "java/lang/Object")] 7

/-- java/lang/Comparable -/
def k17 : Class := { plain "java/lang/Comparable" (some 0) with
  accessFlags := 1537
  interfaces := #[]
  cf := some (fileOf pool17 1 #[] #[] 1537 3 #[] #[])
  fields := #[]
  methods := #[]
  instanceTypes := #[]
  staticTypes := #[]
  resolved := Array.replicate 12 none
  statics := none }

def pool18 : Array CpInfo := pool [(2, .class_ 4), (1, u "java/lang/Enum"), (0, u "name"), (0, u "Ljava/lang/String;"), (2, u "ordinal"), (0, u "I"), (1, .class_ 14), (1, u "java/lang/Object"), (4, u "hash"), (86, .class_ 108), (1, u "java/lang/Enum$EnumDesc"), (2, .class_ 112), (0, u "java/lang/constant/Constable"), (0, .class_ 114), (0, u "java/lang/Comparable"), (0, .class_ 116), (0, u "java/io/Serializable")] 87

/-- java/lang/Enum -/
def k18 : Class := { plain "java/lang/Enum" (some 0) with
  accessFlags := 1057
  interfaces := #[16, 17, 10]
  cf := some (fileOf pool18 2 #[.nestMembers #[106]] #[] 1057 12 #[111, 113, 115] #[{ accessFlags := 18, nameIndex := 5, descriptorIndex := 6, attributes := #[] }, { accessFlags := 18, nameIndex := 9, descriptorIndex := 10, attributes := #[] }, { accessFlags := 2, nameIndex := 19, descriptorIndex := 10, attributes := #[] }])
  fields := #[{ name := "name", type := (.object "java/lang/String"), accessFlags := 18, slot := 0, constantValue := 0 }, { name := "ordinal", type := .int, accessFlags := 18, slot := 1, constantValue := 0 }, { name := "hash", type := .int, accessFlags := 2, slot := 2, constantValue := 0 }]
  methods := #[]
  instanceTypes := #[(.object "java/lang/String"), .int, .int]
  staticTypes := #[]
  resolved := Array.replicate 204 none
  statics := none }

def pool19 : Array CpInfo := pool [(1, .class_ 2), (0, u "com/example/firm_warden/firmwarden/value/DataType"), (2, u "STRING"), (0, u "Lcom/example/firm_warden/firmwarden/value/DataType;"), (2, u "BOOLEAN"), (2, u "INTEGER"), (2, u "DOUBLE"), (2, u "TIME"), (2, u "DATE"), (2, u "DATE_TIME"), (2, u "ANY_URI"), (2, u "HEX_BINARY"), (2, u "BASE64_BINARY"), (2, u "DAY_TIME_DURATION"), (2, u "YEAR_MONTH_DURATION"), (2, u "X500_NAME"), (2, u "RFC822_NAME"), (2, u "IP_ADDRESS"), (2, u "DNS_NAME"), (2, u "$VALUES"), (0, u "[Lcom/example/firm_warden/firmwarden/value/DataType;"), (6, .class_ 64), (1, u "java/lang/Enum"), (11, u "id"), (0, u "Ljava/lang/String;"), (2, u "formerId"), (2, u "parser"), (0, u "Ljava/util/function/Function;"), (18, u "BY_ID"), (0, u "Ljava/util/Map;"), (14, u "BY_SHORT_NAME"), (68, .class_ 189), (0, u "com/example/firm_warden/firmwarden/value/DataType$Ids")] 244

/-- com/example/firm_warden/firmwarden/value/DataType -/
def k19 : Class := { plain "com/example/firm_warden/firmwarden/value/DataType" (some 18) with
  accessFlags := 16433
  interfaces := #[]
  cf := some (fileOf pool19 1 #[.nestMembers #[188]] #[] 16433 62 #[] #[{ accessFlags := 16409, nameIndex := 5, descriptorIndex := 6, attributes := #[] }, { accessFlags := 16409, nameIndex := 9, descriptorIndex := 6, attributes := #[] }, { accessFlags := 16409, nameIndex := 12, descriptorIndex := 6, attributes := #[] }, { accessFlags := 16409, nameIndex := 15, descriptorIndex := 6, attributes := #[] }, { accessFlags := 16409, nameIndex := 18, descriptorIndex := 6, attributes := #[] }, { accessFlags := 16409, nameIndex := 21, descriptorIndex := 6, attributes := #[] }, { accessFlags := 16409, nameIndex := 24, descriptorIndex := 6, attributes := #[] }, { accessFlags := 16409, nameIndex := 27, descriptorIndex := 6, attributes := #[] }, { accessFlags := 16409, nameIndex := 30, descriptorIndex := 6, attributes := #[] }, { accessFlags := 16409, nameIndex := 33, descriptorIndex := 6, attributes := #[] }, { accessFlags := 16409, nameIndex := 36, descriptorIndex := 6, attributes := #[] }, { accessFlags := 16409, nameIndex := 39, descriptorIndex := 6, attributes := #[] }, { accessFlags := 16409, nameIndex := 42, descriptorIndex := 6, attributes := #[] }, { accessFlags := 16409, nameIndex := 45, descriptorIndex := 6, attributes := #[] }, { accessFlags := 16409, nameIndex := 48, descriptorIndex := 6, attributes := #[] }, { accessFlags := 16409, nameIndex := 51, descriptorIndex := 6, attributes := #[] }, { accessFlags := 26, nameIndex := 103, descriptorIndex := 104, attributes := #[] }, { accessFlags := 26, nameIndex := 119, descriptorIndex := 104, attributes := #[] }, { accessFlags := 18, nameIndex := 76, descriptorIndex := 77, attributes := #[] }, { accessFlags := 18, nameIndex := 80, descriptorIndex := 77, attributes := #[] }, { accessFlags := 18, nameIndex := 83, descriptorIndex := 84, attributes := #[] }, { accessFlags := 4122, nameIndex := 54, descriptorIndex := 55, attributes := #[] }])
  fields := #[{ name := "STRING", type := (.object "com/example/firm_warden/firmwarden/value/DataType"), accessFlags := 16409, slot := 0, constantValue := 0 }, { name := "BOOLEAN", type := (.object "com/example/firm_warden/firmwarden/value/DataType"), accessFlags := 16409, slot := 1, constantValue := 0 }, { name := "INTEGER", type := (.object "com/example/firm_warden/firmwarden/value/DataType"), accessFlags := 16409, slot := 2, constantValue := 0 }, { name := "DOUBLE", type := (.object "com/example/firm_warden/firmwarden/value/DataType"), accessFlags := 16409, slot := 3, constantValue := 0 }, { name := "TIME", type := (.object "com/example/firm_warden/firmwarden/value/DataType"), accessFlags := 16409, slot := 4, constantValue := 0 }, { name := "DATE", type := (.object "com/example/firm_warden/firmwarden/value/DataType"), accessFlags := 16409, slot := 5, constantValue := 0 }, { name := "DATE_TIME", type := (.object "com/example/firm_warden/firmwarden/value/DataType"), accessFlags := 16409, slot := 6, constantValue := 0 }, { name := "ANY_URI", type := (.object "com/example/firm_warden/firmwarden/value/DataType"), accessFlags := 16409, slot := 7, constantValue := 0 }, { name := "HEX_BINARY", type := (.object "com/example/firm_warden/firmwarden/value/DataType"), accessFlags := 16409, slot := 8, constantValue := 0 }, { name := "BASE64_BINARY", type := (.object "com/example/firm_warden/firmwarden/value/DataType"), accessFlags := 16409, slot := 9, constantValue := 0 }, { name := "DAY_TIME_DURATION", type := (.object "com/example/firm_warden/firmwarden/value/DataType"), accessFlags := 16409, slot := 10, constantValue := 0 }, { name := "YEAR_MONTH_DURATION", type := (.object "com/example/firm_warden/firmwarden/value/DataType"), accessFlags := 16409, slot := 11, constantValue := 0 }, { name := "X500_NAME", type := (.object "com/example/firm_warden/firmwarden/value/DataType"), accessFlags := 16409, slot := 12, constantValue := 0 }, { name := "RFC822_NAME", type := (.object "com/example/firm_warden/firmwarden/value/DataType"), accessFlags := 16409, slot := 13, constantValue := 0 }, { name := "IP_ADDRESS", type := (.object "com/example/firm_warden/firmwarden/value/DataType"), accessFlags := 16409, slot := 14, constantValue := 0 }, { name := "DNS_NAME", type := (.object "com/example/firm_warden/firmwarden/value/DataType"), accessFlags := 16409, slot := 15, constantValue := 0 }, { name := "BY_ID", type := (.object "java/util/Map"), accessFlags := 26, slot := 16, constantValue := 0 }, { name := "BY_SHORT_NAME", type := (.object "java/util/Map"), accessFlags := 26, slot := 17, constantValue := 0 }, { name := "id", type := (.object "java/lang/String"), accessFlags := 18, slot := 3, constantValue := 0 }, { name := "formerId", type := (.object "java/lang/String"), accessFlags := 18, slot := 4, constantValue := 0 }, { name := "parser", type := (.object "java/util/function/Function"), accessFlags := 18, slot := 5, constantValue := 0 }, { name := "$VALUES", type := (.array (.object "com/example/firm_warden/firmwarden/value/DataType")), accessFlags := 4122, slot := 18, constantValue := 0 }]
  methods := #[]
  instanceTypes := #[(.object "java/lang/String"), .int, .int, (.object "java/lang/String"), (.object "java/lang/String"), (.object "java/util/function/Function")]
  staticTypes := #[(.object "com/example/firm_warden/firmwarden/value/DataType"), (.object "com/example/firm_warden/firmwarden/value/DataType"), (.object "com/example/firm_warden/firmwarden/value/DataType"), (.object "com/example/firm_warden/firmwarden/value/DataType"), (.object "com/example/firm_warden/firmwarden/value/DataType"), (.object "com/example/firm_warden/firmwarden/value/DataType"), (.object "com/example/firm_warden/firmwarden/value/DataType"), (.object "com/example/firm_warden/firmwarden/value/DataType"), (.object "com/example/firm_warden/firmwarden/value/DataType"), (.object "com/example/firm_warden/firmwarden/value/DataType"), (.object "com/example/firm_warden/firmwarden/value/DataType"), (.object "com/example/firm_warden/firmwarden/value/DataType"), (.object "com/example/firm_warden/firmwarden/value/DataType"), (.object "com/example/firm_warden/firmwarden/value/DataType"), (.object "com/example/firm_warden/firmwarden/value/DataType"), (.object "com/example/firm_warden/firmwarden/value/DataType"), (.object "java/util/Map"), (.object "java/util/Map"), (.array (.object "com/example/firm_warden/firmwarden/value/DataType"))]
  resolved := Array.replicate 434 none
  statics := some 2 }

def pool20 : Array CpInfo := pool [(2, .class_ 4), (1, u "java/lang/Object"), (0, u "<init>"), (0, u "()V"), (35, .class_ 44), (1, u "java/util/Objects"), (0, u "requireNonNull"), (0, u "(Ljava/lang/Object;)Ljava/lang/Object;"), (58, .methodref 106 107), (0, .class_ 108), (0, .nameAndType 109 110), (0, u "jdk/internal/util/Preconditions"), (0, u "checkIndex"), (0, u "(IILjava/util/function/BiFunction;)I"), (60, u "(II)I")] 12

def k20m0 : Method := { name := "<init>", desc := "()V", sig := { parameters := [], returnType := none }, accessFlags := 2, code := none }
def k20c1 : Code := { maxStack := 2, maxLocals := 1, code := jdk_31_method_10_code, exceptionTable := #[], attributes := #[] }
def k20m1 : Method := { name := "requireNonNull", desc := "(Ljava/lang/Object;)Ljava/lang/Object;", sig := { parameters := [(.object "java/lang/Object")], returnType := some (.object "java/lang/Object") }, accessFlags := 9, code := some k20c1 }
def k20c2 : Code := { maxStack := 3, maxLocals := 2, code := jdk_31_method_17_code, exceptionTable := #[], attributes := #[] }
def k20m2 : Method := { name := "checkIndex", desc := "(II)I", sig := { parameters := [.int, .int], returnType := some .int }, accessFlags := 9, code := some k20c2 }
/-- java/util/Objects -/
def k20 : Class := { plain "java/util/Objects" (some 0) with
  accessFlags := 49
  interfaces := #[]
  cf := some (fileOf pool20 42 #[] #[{ accessFlags := 2, nameIndex := 5, descriptorIndex := 6, attributes := #[] }, { accessFlags := 9, nameIndex := 45, descriptorIndex := 46, attributes := #[] }, { accessFlags := 9, nameIndex := 109, descriptorIndex := 171, attributes := #[] }] 49 2 #[] #[])
  fields := #[]
  methods := #[k20m0, k20m1, k20m2]
  instanceTypes := #[]
  staticTypes := #[]
  resolved := Array.replicate 184 none
  statics := none }

def pool21 : Array CpInfo := pool [(2, .class_ 4), (1, u "java/lang/Object"), (0, u "<init>"), (0, u "()V"), (3, .class_ 11), (0, u "java/util/ImmutableCollections$List12"), (0, .class_ 13), (0, u "java/util/ImmutableCollections$ListN"), (3, u "Z"), (0, .class_ 19), (0, u "java/util/List"), (0, .interfaceMethodref 21 22), (0, .class_ 23), (0, .nameAndType 24 25), (0, u "java/util/Collection"), (0, u "isEmpty"), (0, u "()Z"), (0, .interfaceMethodref 18 27), (0, .nameAndType 28 29), (0, u "of"), (0, u "()Ljava/util/List;"), (0, .interfaceMethodref 21 31), (0, .nameAndType 32 33), (0, u "toArray"), (0, u "()[Ljava/lang/Object;"), (0, .interfaceMethodref 18 35), (0, .nameAndType 28 36), (0, u "([Ljava/lang/Object;)Ljava/util/List;"), (0, .methodref 38 39), (0, .class_ 40), (0, .nameAndType 41 42), (0, u "java/util/Objects"), (0, u "requireNonNull"), (0, u "(Ljava/lang/Object;)Ljava/lang/Object;"), (0, .methodref 12 44), (0, .nameAndType 5 45), (0, u "([Ljava/lang/Object;Z)V"), (1, .class_ 49), (1, u "java/util/ImmutableCollections"), (0, u "$assertionsDisabled"), (5, u "[Ljava/lang/Object;"), (5, u "EMPTY_LIST"), (0, u "Ljava/util/ImmutableCollections$ListN;"), (8, u "EMPTY_LIST_NULLS"), (22, u "SALT32L"), (0, u "J"), (2, u "REVERSE"), (6, u "archivedObjects"), (2, u "EMPTY"), (0, u "Ljava/lang/Object;"), (0, .class_ 112), (0, u "java/util/ImmutableCollections$SetN"), (5, u "EMPTY_SET"), (0, u "Ljava/util/ImmutableCollections$SetN;"), (0, .class_ 121), (0, u "java/util/ImmutableCollections$MapN"), (3, u "EMPTY_MAP"), (0, u "Ljava/util/ImmutableCollections$MapN;"), (4, u "EXPAND_FACTOR"), (0, u "I"), (9, u "listCopy"), (0, u "(Ljava/util/Collection;)Ljava/util/List;"), (7, u "listFromArray"), (17, .class_ 170), (0, u "java/util/ImmutableCollections$MapN$MapNIterator"), (0, .class_ 172), (0, u "java/util/ImmutableCollections$MapN$1"), (0, .class_ 174), (0, u "java/util/ImmutableCollections$Map1"), (0, .class_ 176), (0, u "java/util/ImmutableCollections$AbstractImmutableMap"), (0, .class_ 178), (0, u "java/util/ImmutableCollections$SetN$SetNIterator"), (0, .class_ 180), (0, u "java/util/ImmutableCollections$Set12"), (0, .class_ 182), (0, u "java/util/ImmutableCollections$Set12$1"), (0, .class_ 184), (0, u "java/util/ImmutableCollections$AbstractImmutableSet"), (0, .class_ 186), (0, u "java/util/ImmutableCollections$SubList"), (0, .class_ 188), (0, u "java/util/ImmutableCollections$ListItr"), (0, .class_ 190), (0, u "java/util/ImmutableCollections$AbstractImmutableList"), (0, .class_ 192), (0, u "java/util/ImmutableCollections$AbstractImmutableCollection"), (0, .class_ 194), (0, u "java/util/ImmutableCollections$Access"), (0, .class_ 196), (0, u "java/util/ImmutableCollections$Access$1")] 16

def k21m0 : Method := { name := "<init>", desc := "()V", sig := { parameters := [], returnType := none }, accessFlags := 2, code := none }
def k21c1 : Code := { maxStack := 1, maxLocals := 2, code := jdk_56_method_3_code, exceptionTable := #[], attributes := #[] }
def k21m1 : Method := { name := "listCopy", desc := "(Ljava/util/Collection;)Ljava/util/List;", sig := { parameters := [(.object "java/util/Collection")], returnType := some (.object "java/util/List") }, accessFlags := 8, code := some k21c1 }
def k21c2 : Code := { maxStack := 4, maxLocals := 3, code := jdk_56_method_4_code, exceptionTable := #[], attributes := #[] }
def k21m2 : Method := { name := "listFromArray", desc := "([Ljava/lang/Object;)Ljava/util/List;", sig := { parameters := [(.array (.object "java/lang/Object"))], returnType := some (.object "java/util/List") }, accessFlags := 136, code := some k21c2 }
/-- java/util/ImmutableCollections -/
def k21 : Class := { plain "java/util/ImmutableCollections" (some 0) with
  accessFlags := 32
  interfaces := #[]
  cf := some (fileOf pool21 47 #[.nestMembers #[120, 169, 171, 173, 175, 111, 177, 179, 181, 183, 12, 10, 185, 187, 189, 191, 193, 195]] #[{ accessFlags := 2, nameIndex := 5, descriptorIndex := 6, attributes := #[] }, { accessFlags := 8, nameIndex := 142, descriptorIndex := 143, attributes := #[] }, { accessFlags := 136, nameIndex := 151, descriptorIndex := 36, attributes := #[] }] 32 2 #[] #[{ accessFlags := 26, nameIndex := 95, descriptorIndex := 96, attributes := #[] }, { accessFlags := 26, nameIndex := 99, descriptorIndex := 17, attributes := #[] }, { accessFlags := 10, nameIndex := 106, descriptorIndex := 56, attributes := #[] }, { accessFlags := 26, nameIndex := 109, descriptorIndex := 110, attributes := #[] }, { accessFlags := 24, nameIndex := 62, descriptorIndex := 63, attributes := #[] }, { accessFlags := 24, nameIndex := 72, descriptorIndex := 63, attributes := #[] }, { accessFlags := 24, nameIndex := 118, descriptorIndex := 119, attributes := #[] }, { accessFlags := 24, nameIndex := 125, descriptorIndex := 126, attributes := #[] }, { accessFlags := 24, nameIndex := 131, descriptorIndex := 132, attributes := #[] }, { accessFlags := 4120, nameIndex := 50, descriptorIndex := 17, attributes := #[] }])
  fields := #[{ name := "SALT32L", type := .long, accessFlags := 26, slot := 0, constantValue := 0 }, { name := "REVERSE", type := .boolean, accessFlags := 26, slot := 1, constantValue := 0 }, { name := "archivedObjects", type := (.array (.object "java/lang/Object")), accessFlags := 10, slot := 2, constantValue := 0 }, { name := "EMPTY", type := (.object "java/lang/Object"), accessFlags := 26, slot := 3, constantValue := 0 }, { name := "EMPTY_LIST", type := (.object "java/util/ImmutableCollections$ListN"), accessFlags := 24, slot := 4, constantValue := 0 }, { name := "EMPTY_LIST_NULLS", type := (.object "java/util/ImmutableCollections$ListN"), accessFlags := 24, slot := 5, constantValue := 0 }, { name := "EMPTY_SET", type := (.object "java/util/ImmutableCollections$SetN"), accessFlags := 24, slot := 6, constantValue := 0 }, { name := "EMPTY_MAP", type := (.object "java/util/ImmutableCollections$MapN"), accessFlags := 24, slot := 7, constantValue := 0 }, { name := "EXPAND_FACTOR", type := .int, accessFlags := 24, slot := 8, constantValue := 0 }, { name := "$assertionsDisabled", type := .boolean, accessFlags := 4120, slot := 9, constantValue := 0 }]
  methods := #[k21m0, k21m1, k21m2]
  instanceTypes := #[]
  staticTypes := #[.long, .boolean, (.array (.object "java/lang/Object")), (.object "java/lang/Object"), (.object "java/util/ImmutableCollections$ListN"), (.object "java/util/ImmutableCollections$ListN"), (.object "java/util/ImmutableCollections$SetN"), (.object "java/util/ImmutableCollections$MapN"), .int, .boolean]
  resolved := Array.replicate 213 none
  statics := some 3 }

def pool22 : Array CpInfo := pool [(1, .methodref 2 3), (0, .class_ 4), (0, .nameAndType 5 6), (0, u "java/util/AbstractCollection"), (0, u "<init>"), (0, u "()V"), (1, .class_ 10), (1, u "java/util/ImmutableCollections"), (2, .class_ 14), (0, u "java/util/ImmutableCollections$AbstractImmutableCollection")] 41

def k22c0 : Code := { maxStack := 1, maxLocals := 1, code := jdk_47_method_1_code, exceptionTable := #[], attributes := #[] }
def k22m0 : Method := { name := "<init>", desc := "()V", sig := { parameters := [], returnType := none }, accessFlags := 0, code := some k22c0 }
/-- java/util/ImmutableCollections$AbstractImmutableCollection -/
def k22 : Class := { plain "java/util/ImmutableCollections$AbstractImmutableCollection" (some 4) with
  accessFlags := 1056
  interfaces := #[]
  cf := some (fileOf pool22 13 #[.nestHost 8] #[{ accessFlags := 0, nameIndex := 5, descriptorIndex := 6, attributes := #[] }] 1056 2 #[] #[])
  fields := #[]
  methods := #[k22m0]
  instanceTypes := #[]
  staticTypes := #[]
  resolved := Array.replicate 56 none
  statics := none }

def pool23 : Array CpInfo := pool [(1, .methodref 2 3), (0, .class_ 4), (0, .nameAndType 5 6), (0, u "java/util/ImmutableCollections$AbstractImmutableCollection"), (0, u "<init>"), (0, u "()V"), (1, .class_ 10), (1, u "java/util/ImmutableCollections"), (2, .methodref 14 15), (0, .class_ 16), (0, .nameAndType 17 18), (0, u "java/util/ImmutableCollections$AbstractImmutableList"), (0, u "size"), (0, u "()I"), (42, .class_ 62), (0, u "java/util/ImmutableCollections$ListItr"), (0, .methodref 61 64), (0, .nameAndType 5 65), (0, u "(Ljava/util/List;I)V"), (11, .class_ 78), (0, u "java/util/List"), (2, u "iterator"), (0, u "()Ljava/util/Iterator;"), (41, .class_ 125), (0, u "java/util/RandomAccess")] 70

def k23c0 : Code := { maxStack := 1, maxLocals := 1, code := jdk_46_method_1_code, exceptionTable := #[], attributes := #[] }
def k23m0 : Method := { name := "<init>", desc := "()V", sig := { parameters := [], returnType := none }, accessFlags := 0, code := some k23c0 }
def k23c1 : Code := { maxStack := 4, maxLocals := 1, code := jdk_46_method_10_code, exceptionTable := #[], attributes := #[] }
def k23m1 : Method := { name := "iterator", desc := "()Ljava/util/Iterator;", sig := { parameters := [], returnType := some (.object "java/util/Iterator") }, accessFlags := 1, code := some k23c1 }
/-- java/util/ImmutableCollections$AbstractImmutableList -/
def k23 : Class := { plain "java/util/ImmutableCollections$AbstractImmutableList" (some 22) with
  accessFlags := 1056
  interfaces := #[6, 8]
  cf := some (fileOf pool23 14 #[.nestHost 8] #[{ accessFlags := 0, nameIndex := 5, descriptorIndex := 6, attributes := #[] }, { accessFlags := 1, nameIndex := 81, descriptorIndex := 82, attributes := #[] }] 1056 2 #[77, 124] #[])
  fields := #[]
  methods := #[k23m0, k23m1]
  instanceTypes := #[]
  staticTypes := #[]
  resolved := Array.replicate 196 none
  statics := none }

def pool24 : Array CpInfo := pool [(1, .methodref 2 3), (0, .class_ 4), (0, .nameAndType 5 6), (0, u "java/util/ImmutableCollections$AbstractImmutableList"), (0, u "<init>"), (0, u "()V"), (0, .methodref 8 9), (0, .class_ 10), (0, .nameAndType 11 12), (0, u "java/util/Objects"), (0, u "requireNonNull"), (0, u "(Ljava/lang/Object;)Ljava/lang/Object;"), (0, .fieldref 14 15), (0, .class_ 16), (0, .nameAndType 17 18), (0, u "java/util/ImmutableCollections$List12"), (0, u "e0"), (0, u "Ljava/lang/Object;"), (0, .fieldref 20 21), (0, .class_ 22), (0, .nameAndType 23 18), (0, u "java/util/ImmutableCollections"), (0, u "EMPTY"), (0, .fieldref 14 25), (0, .nameAndType 26 18), (0, u "e1"), (24, u "size"), (0, u "()I"), (17, .class_ 71), (0, u "java/io/Serializable"), (4, u "(Ljava/lang/Object;)V"), (8, u "(Ljava/lang/Object;Ljava/lang/Object;)V"), (4, u "get"), (0, u "(I)Ljava/lang/Object;")] 33

def k24c0 : Code := { maxStack := 2, maxLocals := 2, code := jdk_44_method_1_code, exceptionTable := #[], attributes := #[] }
def k24m0 : Method := { name := "<init>", desc := "(Ljava/lang/Object;)V", sig := { parameters := [(.object "java/lang/Object")], returnType := none }, accessFlags := 0, code := some k24c0 }
def k24c1 : Code := { maxStack := 2, maxLocals := 3, code := jdk_44_method_2_code, exceptionTable := #[], attributes := #[] }
def k24m1 : Method := { name := "<init>", desc := "(Ljava/lang/Object;Ljava/lang/Object;)V", sig := { parameters := [(.object "java/lang/Object"), (.object "java/lang/Object")], returnType := none }, accessFlags := 0, code := some k24c1 }
def k24c2 : Code := { maxStack := 2, maxLocals := 1, code := jdk_44_method_3_code, exceptionTable := #[], attributes := #[] }
def k24m2 : Method := { name := "size", desc := "()I", sig := { parameters := [], returnType := some .int }, accessFlags := 1, code := some k24c2 }
def k24c3 : Code := { maxStack := 2, maxLocals := 2, code := jdk_44_method_5_code, exceptionTable := #[], attributes := #[] }
def k24m3 : Method := { name := "get", desc := "(I)Ljava/lang/Object;", sig := { parameters := [.int], returnType := some (.object "java/lang/Object") }, accessFlags := 1, code := some k24c3 }
/-- java/util/ImmutableCollections$List12 -/
def k24 : Class := { plain "java/util/ImmutableCollections$List12" (some 23) with
  accessFlags := 48
  interfaces := #[10]
  cf := some (fileOf pool24 14 #[.nestHost 20] #[{ accessFlags := 0, nameIndex := 5, descriptorIndex := 76, attributes := #[] }, { accessFlags := 0, nameIndex := 5, descriptorIndex := 85, attributes := #[] }, { accessFlags := 1, nameIndex := 51, descriptorIndex := 52, attributes := #[] }, { accessFlags := 1, nameIndex := 90, descriptorIndex := 91, attributes := #[] }] 48 2 #[70] #[{ accessFlags := 18, nameIndex := 17, descriptorIndex := 18, attributes := #[] }, { accessFlags := 18, nameIndex := 26, descriptorIndex := 18, attributes := #[] }])
  fields := #[{ name := "e0", type := (.object "java/lang/Object"), accessFlags := 18, slot := 0, constantValue := 0 }, { name := "e1", type := (.object "java/lang/Object"), accessFlags := 18, slot := 1, constantValue := 0 }]
  methods := #[k24m0, k24m1, k24m2, k24m3]
  instanceTypes := #[(.object "java/lang/Object"), (.object "java/lang/Object")]
  staticTypes := #[]
  resolved := Array.replicate 125 none
  statics := none }

def pool25 : Array CpInfo := pool [(1, .methodref 2 3), (0, .class_ 4), (0, .nameAndType 5 6), (0, u "java/util/ImmutableCollections$AbstractImmutableList"), (0, u "<init>"), (0, u "()V"), (0, .fieldref 8 9), (0, .class_ 10), (0, .nameAndType 11 12), (0, u "java/util/ImmutableCollections$ListN"), (0, u "elements"), (0, u "[Ljava/lang/Object;"), (0, .fieldref 8 14), (0, .nameAndType 15 16), (0, u "allowNulls"), (0, u "Z"), (42, .class_ 60), (0, u "java/io/Serializable"), (4, u "([Ljava/lang/Object;Z)V"), (11, u "size"), (0, u "()I"), (0, u "get"), (0, u "(I)Ljava/lang/Object;"), (33, .class_ 115), (0, u "java/util/ImmutableCollections")] 3

def k25c0 : Code := { maxStack := 2, maxLocals := 3, code := jdk_45_method_1_code, exceptionTable := #[], attributes := #[] }
def k25m0 : Method := { name := "<init>", desc := "([Ljava/lang/Object;Z)V", sig := { parameters := [(.array (.object "java/lang/Object")), .boolean], returnType := none }, accessFlags := 2, code := some k25c0 }
def k25c1 : Code := { maxStack := 1, maxLocals := 1, code := jdk_45_method_3_code, exceptionTable := #[], attributes := #[] }
def k25m1 : Method := { name := "size", desc := "()I", sig := { parameters := [], returnType := some .int }, accessFlags := 1, code := some k25c1 }
def k25c2 : Code := { maxStack := 2, maxLocals := 2, code := jdk_45_method_4_code, exceptionTable := #[], attributes := #[] }
def k25m2 : Method := { name := "get", desc := "(I)Ljava/lang/Object;", sig := { parameters := [.int], returnType := some (.object "java/lang/Object") }, accessFlags := 1, code := some k25c2 }
/-- java/util/ImmutableCollections$ListN -/
def k25 : Class := { plain "java/util/ImmutableCollections$ListN" (some 23) with
  accessFlags := 48
  interfaces := #[10]
  cf := some (fileOf pool25 8 #[.nestHost 114] #[{ accessFlags := 2, nameIndex := 5, descriptorIndex := 65, attributes := #[] }, { accessFlags := 1, nameIndex := 77, descriptorIndex := 78, attributes := #[] }, { accessFlags := 1, nameIndex := 79, descriptorIndex := 80, attributes := #[] }] 48 2 #[59] #[{ accessFlags := 18, nameIndex := 11, descriptorIndex := 12, attributes := #[] }, { accessFlags := 18, nameIndex := 15, descriptorIndex := 16, attributes := #[] }])
  fields := #[{ name := "elements", type := (.array (.object "java/lang/Object")), accessFlags := 18, slot := 0, constantValue := 0 }, { name := "allowNulls", type := .boolean, accessFlags := 18, slot := 1, constantValue := 0 }]
  methods := #[k25m0, k25m1, k25m2]
  instanceTypes := #[(.array (.object "java/lang/Object")), .boolean]
  staticTypes := #[]
  resolved := Array.replicate 119 none
  statics := none }

def pool26 : Array CpInfo := pool [(16, .class_ 18), (1, u "java/util/Iterator"), (0, u "hasNext"), (0, u "()Z"), (2, u "next"), (0, u "()Ljava/lang/Object;"), (6, .class_ 32), (0, u "java/lang/Object")] 20

def k26m0 : Method := { name := "hasNext", desc := "()Z", sig := { parameters := [], returnType := some .boolean }, accessFlags := 1025, code := none }
def k26m1 : Method := { name := "next", desc := "()Ljava/lang/Object;", sig := { parameters := [], returnType := some (.object "java/lang/Object") }, accessFlags := 1025, code := none }
/-- java/util/Iterator -/
def k26 : Class := { plain "java/util/Iterator" (some 0) with
  accessFlags := 1537
  interfaces := #[]
  cf := some (fileOf pool26 16 #[] #[{ accessFlags := 1025, nameIndex := 19, descriptorIndex := 20, attributes := #[] }, { accessFlags := 1025, nameIndex := 23, descriptorIndex := 24, attributes := #[] }] 1537 31 #[] #[])
  fields := #[]
  methods := #[k26m0, k26m1]
  instanceTypes := #[]
  staticTypes := #[]
  resolved := Array.replicate 53 none
  statics := none }

def pool27 : Array CpInfo := pool [(1, .class_ 2), (0, u "java/util/ListIterator"), (0, .class_ 4), (0, u "java/lang/Object"), (0, .class_ 6), (0, u "java/util/Iterator")] 20

/-- java/util/ListIterator -/
def k27 : Class := { plain "java/util/ListIterator" (some 0) with
  accessFlags := 1537
  interfaces := #[26]
  cf := some (fileOf pool27 1 #[] #[] 1537 3 #[5] #[])
  fields := #[]
  methods := #[]
  instanceTypes := #[]
  staticTypes := #[]
  resolved := Array.replicate 27 none
  statics := none }

def pool28 : Array CpInfo := pool [(1, .methodref 2 3), (0, .class_ 4), (0, .nameAndType 5 6), (0, u "java/lang/Object"), (0, u "<init>"), (0, u "()V"), (0, .fieldref 8 9), (0, .class_ 10), (0, .nameAndType 11 12), (0, u "java/util/ImmutableCollections$ListItr"), (0, u "list"), (0, u "Ljava/util/List;"), (0, .fieldref 8 14), (0, .nameAndType 15 16), (0, u "size"), (0, u "I"), (0, .fieldref 8 18), (0, .nameAndType 19 16), (0, u "cursor"), (0, .fieldref 8 21), (0, .nameAndType 22 23), (0, u "isListIterator"), (0, u "Z"), (0, .interfaceMethodref 25 26), (0, .class_ 27), (0, .nameAndType 28 29), (0, u "java/util/List"), (0, u "get"), (0, u "(I)Ljava/lang/Object;"), (6, .class_ 38), (1, u "java/util/ImmutableCollections"), (2, .class_ 42), (0, u "java/util/ListIterator"), (4, u "(Ljava/util/List;I)V"), (11, u "hasNext"), (0, u "()Z"), (1, u "next"), (0, u "()Ljava/lang/Object;")] 22

def k28c0 : Code := { maxStack := 2, maxLocals := 3, code := jdk_53_method_1_code, exceptionTable := #[], attributes := #[] }
def k28m0 : Method := { name := "<init>", desc := "(Ljava/util/List;I)V", sig := { parameters := [(.object "java/util/List"), .int], returnType := none }, accessFlags := 0, code := some k28c0 }
def k28c1 : Code := { maxStack := 2, maxLocals := 1, code := jdk_53_method_3_code, exceptionTable := #[], attributes := #[] }
def k28m1 : Method := { name := "hasNext", desc := "()Z", sig := { parameters := [], returnType := some .boolean }, accessFlags := 1, code := some k28c1 }
def k28c2 : Code := { maxStack := 3, maxLocals := 3, code := jdk_53_method_4_code, exceptionTable := #[{ startPc := 0, endPc := 24, handlerPc := 25, catchType := 30 }], attributes := #[] }
def k28m2 : Method := { name := "next", desc := "()Ljava/lang/Object;", sig := { parameters := [], returnType := some (.object "java/lang/Object") }, accessFlags := 1, code := some k28c2 }
/-- java/util/ImmutableCollections$ListItr -/
def k28 : Class := { plain "java/util/ImmutableCollections$ListItr" (some 0) with
  accessFlags := 48
  interfaces := #[27]
  cf := some (fileOf pool28 8 #[.nestHost 36] #[{ accessFlags := 0, nameIndex := 5, descriptorIndex := 47, attributes := #[] }, { accessFlags := 1, nameIndex := 59, descriptorIndex := 60, attributes := #[] }, { accessFlags := 1, nameIndex := 62, descriptorIndex := 63, attributes := #[] }] 48 2 #[41] #[{ accessFlags := 18, nameIndex := 11, descriptorIndex := 12, attributes := #[] }, { accessFlags := 18, nameIndex := 15, descriptorIndex := 16, attributes := #[] }, { accessFlags := 18, nameIndex := 22, descriptorIndex := 23, attributes := #[] }, { accessFlags := 2, nameIndex := 19, descriptorIndex := 16, attributes := #[] }])
  fields := #[{ name := "list", type := (.object "java/util/List"), accessFlags := 18, slot := 0, constantValue := 0 }, { name := "size", type := .int, accessFlags := 18, slot := 1, constantValue := 0 }, { name := "isListIterator", type := .boolean, accessFlags := 18, slot := 2, constantValue := 0 }, { name := "cursor", type := .int, accessFlags := 2, slot := 3, constantValue := 0 }]
  methods := #[k28m0, k28m1, k28m2]
  instanceTypes := #[(.object "java/util/List"), .int, .boolean, .int]
  staticTypes := #[]
  resolved := Array.replicate 86 none
  statics := none }

def pool29 : Array CpInfo := pool [(2, .class_ 4), (1, u "java/lang/Object"), (0, u "<init>"), (0, u "()V"), (7, .class_ 16), (1, u "java/util/Arrays"), (57, .class_ 76), (1, u "java/util/Arrays$NaturalOrder"), (9, .methodref 2 87), (0, .nameAndType 88 89), (0, u "getClass"), (0, u "()Ljava/lang/Class;"), (20, .class_ 111), (0, u "[Ljava/lang/Object;"), (1, .class_ 115), (1, u "java/util/Arrays$LegacyMergeSort"), (1, u "Z"), (32, .methodref 151 152), (0, .class_ 153), (0, .nameAndType 154 155), (0, u "java/lang/System"), (0, u "arraycopy"), (0, u "(Ljava/lang/Object;ILjava/lang/Object;II)V"), (144, .methodref 14 301), (0, .nameAndType 302 303), (0, u "copyOf"), (0, u "([Ljava/lang/Object;ILjava/lang/Class;)[Ljava/lang/Object;"), (0, .methodref 305 306), (0, .class_ 307), (0, .nameAndType 308 309), (0, u "java/lang/Math"), (0, u "min"), (0, u "(II)I"), (65, .class_ 376), (0, u "java/util/Arrays$ArrayList"), (68, u "$assertionsDisabled"), (269, u "MIN_ARRAY_SORT_GRAN"), (0, u "I"), (2, u "INSERTIONSORT_THRESHOLD"), (140, u "([Ljava/lang/Object;I)[Ljava/lang/Object;"), (114, .class_ 976), (0, u "java/util/Arrays$ArrayItr")] 52

def k29m0 : Method := { name := "<init>", desc := "()V", sig := { parameters := [], returnType := none }, accessFlags := 2, code := none }
def k29c1 : Code := { maxStack := 3, maxLocals := 2, code := jdk_65_method_119_code, exceptionTable := #[], attributes := #[] }
def k29m1 : Method := { name := "copyOf", desc := "([Ljava/lang/Object;I)[Ljava/lang/Object;", sig := { parameters := [(.array (.object "java/lang/Object")), .int], returnType := some (.array (.object "java/lang/Object")) }, accessFlags := 9, code := some k29c1 }
def k29c2 : Code := { maxStack := 6, maxLocals := 4, code := jdk_65_method_120_code, exceptionTable := #[], attributes := #[] }
def k29m2 : Method := { name := "copyOf", desc := "([Ljava/lang/Object;ILjava/lang/Class;)[Ljava/lang/Object;", sig := { parameters := [(.array (.object "java/lang/Object")), .int, (.object "java/lang/Class")], returnType := some (.array (.object "java/lang/Object")) }, accessFlags := 9, code := some k29c2 }
/-- java/util/Arrays -/
def k29 : Class := { plain "java/util/Arrays" (some 0) with
  accessFlags := 49
  interfaces := #[]
  cf := some (fileOf pool29 14 #[.nestMembers #[975, 375, 113, 74]] #[{ accessFlags := 2, nameIndex := 5, descriptorIndex := 6, attributes := #[] }, { accessFlags := 9, nameIndex := 302, descriptorIndex := 860, attributes := #[] }, { accessFlags := 9, nameIndex := 302, descriptorIndex := 303, attributes := #[] }] 49 2 #[] #[{ accessFlags := 26, nameIndex := 715, descriptorIndex := 716, attributes := #[] }, { accessFlags := 26, nameIndex := 719, descriptorIndex := 716, attributes := #[] }, { accessFlags := 4120, nameIndex := 445, descriptorIndex := 117, attributes := #[] }])
  fields := #[{ name := "MIN_ARRAY_SORT_GRAN", type := .int, accessFlags := 26, slot := 0, constantValue := 0 }, { name := "INSERTIONSORT_THRESHOLD", type := .int, accessFlags := 26, slot := 1, constantValue := 0 }, { name := "$assertionsDisabled", type := .boolean, accessFlags := 4120, slot := 2, constantValue := 0 }]
  methods := #[k29m0, k29m1, k29m2]
  instanceTypes := #[]
  staticTypes := #[.int, .int, .boolean]
  resolved := Array.replicate 1029 none
  statics := none }

def pool30 : Array CpInfo := pool [(2, .class_ 4), (1, u "java/lang/Object"), (0, u "<init>"), (0, u "()V"), (1, .class_ 10), (1, u "java/lang/System"), (0, u "allowSecurityManager"), (0, u "I"), (16, u "cons"), (0, u "Ljava/io/Console;"), (77, .class_ 110), (1, u "java/lang/System$CallersHolder"), (43, u "initialErrStream"), (0, u "Ljava/io/PrintStream;"), (19, u "security"), (0, u "Ljava/lang/SecurityManager;"), (31, .class_ 209), (0, u "java/lang/System$1"), (7, u "props"), (0, u "Ljava/util/Properties;"), (2, u "lineSeparator"), (0, u "Ljava/lang/String;"), (96, .class_ 321), (1, u "java/lang/System$LoggerFinder"), (5, .class_ 328), (0, u "java/lang/System$Logger"), (67, u "err"), (2, u "out"), (91, u "notSupportedJnuEncoding"), (15, u "in"), (17, u "initialIn"), (0, u "Ljava/io/InputStream;"), (35, u "bootLayer"), (0, u "Ljava/lang/ModuleLayer;"), (99, .class_ 664), (0, u "java/lang/System$2"), (9, u "NEVER"), (2, u "MAYBE"), (49, u "arraycopy"), (0, u "(Ljava/lang/Object;ILjava/lang/Object;II)V"), (72, .class_ 802), (0, u "java/lang/System$Logger$Level")] 31

def k30m0 : Method := { name := "<init>", desc := "()V", sig := { parameters := [], returnType := none }, accessFlags := 2, code := none }
def k30m1 : Method := { name := "arraycopy", desc := "(Ljava/lang/Object;ILjava/lang/Object;II)V", sig := { parameters := [(.object "java/lang/Object"), .int, (.object "java/lang/Object"), .int, .int], returnType := none }, accessFlags := 265, code := none }
/-- java/lang/System -/
def k30 : Class := { plain "java/lang/System" (some 0) with
  accessFlags := 49
  interfaces := #[]
  cf := some (fileOf pool30 8 #[.nestMembers #[319, 327, 801, 108, 663, 208]] #[{ accessFlags := 2, nameIndex := 5, descriptorIndex := 6, attributes := #[] }, { accessFlags := 265, nameIndex := 727, descriptorIndex := 728, attributes := #[] }] 49 2 #[] #[{ accessFlags := 25, nameIndex := 507, descriptorIndex := 526, attributes := #[] }, { accessFlags := 25, nameIndex := 399, descriptorIndex := 155, attributes := #[] }, { accessFlags := 25, nameIndex := 396, descriptorIndex := 155, attributes := #[] }, { accessFlags := 10, nameIndex := 525, descriptorIndex := 526, attributes := #[] }, { accessFlags := 26, nameIndex := 674, descriptorIndex := 12, attributes := #[] }, { accessFlags := 26, nameIndex := 677, descriptorIndex := 12, attributes := #[] }, { accessFlags := 10, nameIndex := 11, descriptorIndex := 12, attributes := #[] }, { accessFlags := 74, nameIndex := 175, descriptorIndex := 176, attributes := #[] }, { accessFlags := 10, nameIndex := 491, descriptorIndex := 222, attributes := #[] }, { accessFlags := 74, nameIndex := 29, descriptorIndex := 30, attributes := #[] }, { accessFlags := 74, nameIndex := 154, descriptorIndex := 155, attributes := #[] }, { accessFlags := 10, nameIndex := 217, descriptorIndex := 218, attributes := #[] }, { accessFlags := 10, nameIndex := 221, descriptorIndex := 222, attributes := #[] }, { accessFlags := 8, nameIndex := 562, descriptorIndex := 563, attributes := #[] }])
  fields := #[{ name := "in", type := (.object "java/io/InputStream"), accessFlags := 25, slot := 0, constantValue := 0 }, { name := "out", type := (.object "java/io/PrintStream"), accessFlags := 25, slot := 1, constantValue := 0 }, { name := "err", type := (.object "java/io/PrintStream"), accessFlags := 25, slot := 2, constantValue := 0 }, { name := "initialIn", type := (.object "java/io/InputStream"), accessFlags := 10, slot := 3, constantValue := 0 }, { name := "NEVER", type := .int, accessFlags := 26, slot := 4, constantValue := 0 }, { name := "MAYBE", type := .int, accessFlags := 26, slot := 5, constantValue := 0 }, { name := "allowSecurityManager", type := .int, accessFlags := 10, slot := 6, constantValue := 0 }, { name := "security", type := (.object "java/lang/SecurityManager"), accessFlags := 74, slot := 7, constantValue := 0 }, { name := "notSupportedJnuEncoding", type := (.object "java/lang/String"), accessFlags := 10, slot := 8, constantValue := 0 }, { name := "cons", type := (.object "java/io/Console"), accessFlags := 74, slot := 9, constantValue := 0 }, { name := "initialErrStream", type := (.object "java/io/PrintStream"), accessFlags := 74, slot := 10, constantValue := 0 }, { name := "props", type := (.object "java/util/Properties"), accessFlags := 10, slot := 11, constantValue := 0 }, { name := "lineSeparator", type := (.object "java/lang/String"), accessFlags := 10, slot := 12, constantValue := 0 }, { name := "bootLayer", type := (.object "java/lang/ModuleLayer"), accessFlags := 8, slot := 13, constantValue := 0 }]
  methods := #[k30m0, k30m1]
  instanceTypes := #[]
  staticTypes := #[(.object "java/io/InputStream"), (.object "java/io/PrintStream"), (.object "java/io/PrintStream"), (.object "java/io/InputStream"), .int, .int, .int, (.object "java/lang/SecurityManager"), (.object "java/lang/String"), (.object "java/io/Console"), (.object "java/io/PrintStream"), (.object "java/util/Properties"), (.object "java/lang/String"), (.object "java/lang/ModuleLayer")]
  resolved := Array.replicate 834 none
  statics := none }

def pool31 : Array CpInfo := pool [(1, .fieldref 2 3), (0, .class_ 4), (0, .nameAndType 5 6), (0, u "java/util/ArrayList$Itr"), (0, u "this$0"), (0, u "Ljava/util/ArrayList;"), (0, .methodref 8 9), (0, .class_ 10), (0, .nameAndType 11 12), (0, u "java/lang/Object"), (0, u "<init>"), (0, u "()V"), (0, .fieldref 2 14), (0, .nameAndType 15 16), (0, u "lastRet"), (0, u "I"), (0, .fieldref 18 19), (0, .class_ 20), (0, .nameAndType 21 16), (0, u "java/util/ArrayList"), (0, u "modCount"), (0, .fieldref 2 23), (0, .nameAndType 24 16), (0, u "expectedModCount"), (0, .fieldref 2 26), (0, .nameAndType 27 16), (0, u "cursor"), (0, .fieldref 18 29), (0, .nameAndType 30 16), (0, u "size"), (0, .methodref 2 32), (0, .nameAndType 33 12), (0, u "checkForComodification"), (3, .fieldref 18 38), (0, .nameAndType 39 40), (0, u "elementData"), (0, u "[Ljava/lang/Object;"), (28, .class_ 70), (0, u "java/util/Iterator"), (0, u "(Ljava/util/ArrayList;)V"), (8, u "hasNext"), (0, u "()Z"), (1, u "next"), (0, u "()Ljava/lang/Object;")] 19

def k31c0 : Code := { maxStack := 2, maxLocals := 2, code := jdk_49_method_1_code, exceptionTable := #[], attributes := #[] }
def k31m0 : Method := { name := "<init>", desc := "(Ljava/util/ArrayList;)V", sig := { parameters := [(.object "java/util/ArrayList")], returnType := none }, accessFlags := 0, code := some k31c0 }
def k31c1 : Code := { maxStack := 2, maxLocals := 1, code := jdk_49_method_2_code, exceptionTable := #[], attributes := #[] }
def k31m1 : Method := { name := "hasNext", desc := "()Z", sig := { parameters := [], returnType := some .boolean }, accessFlags := 1, code := some k31c1 }
def k31c2 : Code := { maxStack := 4, maxLocals := 3, code := jdk_49_method_3_code, exceptionTable := #[], attributes := #[] }
def k31m2 : Method := { name := "next", desc := "()Ljava/lang/Object;", sig := { parameters := [], returnType := some (.object "java/lang/Object") }, accessFlags := 1, code := some k31c2 }
def k31c3 : Code := { maxStack := 2, maxLocals := 1, code := jdk_49_method_6_code, exceptionTable := #[], attributes := #[] }
def k31m3 : Method := { name := "checkForComodification", desc := "()V", sig := { parameters := [], returnType := none }, accessFlags := 16, code := some k31c3 }
/-- java/util/ArrayList$Itr -/
def k31 : Class := { plain "java/util/ArrayList$Itr" (some 0) with
  accessFlags := 32
  interfaces := #[26]
  cf := some (fileOf pool31 2 #[.nestHost 18] #[{ accessFlags := 0, nameIndex := 11, descriptorIndex := 71, attributes := #[] }, { accessFlags := 1, nameIndex := 80, descriptorIndex := 81, attributes := #[] }, { accessFlags := 1, nameIndex := 83, descriptorIndex := 84, attributes := #[] }, { accessFlags := 16, nameIndex := 33, descriptorIndex := 12, attributes := #[] }] 32 8 #[69] #[{ accessFlags := 0, nameIndex := 27, descriptorIndex := 16, attributes := #[] }, { accessFlags := 0, nameIndex := 15, descriptorIndex := 16, attributes := #[] }, { accessFlags := 0, nameIndex := 24, descriptorIndex := 16, attributes := #[] }, { accessFlags := 4112, nameIndex := 5, descriptorIndex := 6, attributes := #[] }])
  fields := #[{ name := "cursor", type := .int, accessFlags := 0, slot := 0, constantValue := 0 }, { name := "lastRet", type := .int, accessFlags := 0, slot := 1, constantValue := 0 }, { name := "expectedModCount", type := .int, accessFlags := 0, slot := 2, constantValue := 0 }, { name := "this$0", type := (.object "java/util/ArrayList"), accessFlags := 4112, slot := 3, constantValue := 0 }]
  methods := #[k31m0, k31m1, k31m2, k31m3]
  instanceTypes := #[.int, .int, .int, (.object "java/util/ArrayList")]
  staticTypes := #[]
  resolved := Array.replicate 104 none
  statics := none }

def pool32 : Array CpInfo := pool [(2, .class_ 4), (1, u "java/lang/Object"), (0, u "<init>"), (0, u "()V"), (17, .class_ 26), (1, u "jdk/internal/util/Preconditions"), (6, u "checkIndex"), (21, .class_ 56), (0, u "jdk/internal/util/Preconditions$4"), (57, .class_ 115), (0, u "jdk/internal/util/Preconditions$1"), (7, u "SIOOBE_FORMATTER"), (0, u "Ljava/util/function/BiFunction;"), (0, .class_ 126), (0, u "jdk/internal/util/Preconditions$2"), (3, u "AIOOBE_FORMATTER"), (0, .class_ 132), (0, u "jdk/internal/util/Preconditions$3"), (3, u "IOOBE_FORMATTER"), (41, u "(IILjava/util/function/BiFunction;)I")] 15

def k32m0 : Method := { name := "<init>", desc := "()V", sig := { parameters := [], returnType := none }, accessFlags := 1, code := none }
def k32c1 : Code := { maxStack := 3, maxLocals := 3, code := jdk_41_method_11_code, exceptionTable := #[], attributes := #[] }
def k32m1 : Method := { name := "checkIndex", desc := "(IILjava/util/function/BiFunction;)I", sig := { parameters := [.int, .int, (.object "java/util/function/BiFunction")], returnType := some .int }, accessFlags := 9, code := some k32c1 }
/-- jdk/internal/util/Preconditions -/
def k32 : Class := { plain "jdk/internal/util/Preconditions" (some 0) with
  accessFlags := 33
  interfaces := #[]
  cf := some (fileOf pool32 24 #[.nestMembers #[55, 131, 125, 114]] #[{ accessFlags := 1, nameIndex := 5, descriptorIndex := 6, attributes := #[] }, { accessFlags := 9, nameIndex := 33, descriptorIndex := 178, attributes := #[] }] 33 2 #[] #[{ accessFlags := 25, nameIndex := 123, descriptorIndex := 124, attributes := #[] }, { accessFlags := 25, nameIndex := 130, descriptorIndex := 124, attributes := #[] }, { accessFlags := 25, nameIndex := 136, descriptorIndex := 124, attributes := #[] }])
  fields := #[{ name := "SIOOBE_FORMATTER", type := (.object "java/util/function/BiFunction"), accessFlags := 25, slot := 0, constantValue := 0 }, { name := "AIOOBE_FORMATTER", type := (.object "java/util/function/BiFunction"), accessFlags := 25, slot := 1, constantValue := 0 }, { name := "IOOBE_FORMATTER", type := (.object "java/util/function/BiFunction"), accessFlags := 25, slot := 2, constantValue := 0 }]
  methods := #[k32m0, k32m1]
  instanceTypes := #[]
  staticTypes := #[(.object "java/util/function/BiFunction"), (.object "java/util/function/BiFunction"), (.object "java/util/function/BiFunction")]
  resolved := Array.replicate 194 none
  statics := none }

def pool33 : Array CpInfo := pool [(1, u "java/lang/Class"), (0, .class_ 1), (0, u "java/lang/Object"), (0, .class_ 3)] 0

/-- java/lang/Class -/
def k33 : Class := { plain "java/lang/Class" (some 0) with
  accessFlags := 49
  interfaces := #[]
  cf := some (fileOf pool33 2 #[] #[] 49 4 #[] #[])
  fields := #[]
  methods := #[]
  instanceTypes := #[]
  staticTypes := #[]
  resolved := Array.replicate 5 none
  statics := none }

/-- the primitive byte -/
def k34 : Class := { plain "byte" none with kind := .primitive 'B', accessFlags := 0x411 }
/-- [B -/
def k35 : Class := { plain "[B" (some 0) with kind := .array 34 .byte, interfaces := #[9, 10], accessFlags := 1041 }

/-- the primitive int -/
def k36 : Class := { plain "int" none with kind := .primitive 'I', accessFlags := 0x411 }
/-- [I -/
def k37 : Class := { plain "[I" (some 0) with kind := .array 36 .int, interfaces := #[9, 10], accessFlags := 1041 }

/-- [Ljava/lang/Object; -/
def k38 : Class := { plain "[Ljava/lang/Object;" (some 0) with kind := .array 0 (.object "java/lang/Object"), interfaces := #[9, 10], accessFlags := 1041, mirror := some 4 }

def heap : Heap := #[{ cls := 11, slots := #[.long 0, .int 0, .ref 8, .ref 9], vm := .statics 11 },
  { cls := 13, slots := #[.ref 7, .ref 5], vm := .statics 13 },
  { cls := 19, slots := #[.null, .ref 6, .null, .null, .null, .null, .null, .null, .null, .null, .null, .null, .null, .null, .null, .null, .null, .null, .null], vm := .statics 19 },
  { cls := 21, slots := #[.long 0, .int 0, .null, .ref 11, .ref 10, .null, .null, .null, .int 0, .int 1], vm := .statics 21 },
  { cls := 33, slots := #[], vm := .mirror 38 },
  { cls := 13, slots := #[.ref 6, .null, .null], vm := .none },
  { cls := 19, slots := #[.null, .int 0, .int 0, .null, .null, .null], vm := .none },
  { cls := 13, slots := #[.ref 6, .null, .null], vm := .none },
  { cls := 38, slots := #[], vm := .none },
  { cls := 38, slots := #[], vm := .none },
  { cls := 25, slots := #[.ref 8, .int 0], vm := .none },
  { cls := 0, slots := #[], vm := .none }]
def classes : Array Class := #[k0, k1, k2, k3, k4, k5, k6, k7, k8, k9, k10, k11, k12, k13, k14, k15, k16, k17, k18, k19, k20, k21, k22, k23, k24, k25, k26, k27, k28, k29, k30, k31, k32, k33, k34, k35, k36, k37, k38]
def interned : List (Array UInt16 × Addr) := []
def slotsUsed : Nat := 49
def theMethod : MethodId := ⟨1, 1⟩
def args0 : Array Value := #[.int 5, .int 5, .int 5]
def aboutOver (below : List Frame) : State where
  vm := { classes := classes, interned := interned.toArray }
  heap := heap
  slotsUsed := slotsUsed
  threads := #[{ frames := .invoking theMethod args0 :: below }]
def below0 : List Frame := [.native { method := ⟨0, 0⟩, args := #[] }]
def about1 : State := aboutOver below0
def p0 : Program := .bare "" "" ""
def e0 : Env := launch0.env 0 0 0
theorem w_frames : about1.frames = Frame.invoking theMethod args0 :: below0 := rfl
set_option maxRecDepth 65536 in
theorem w_args : argsFit about1.vm theMethod args0 = true := by decide +kernel
set_option maxRecDepth 65536 in
theorem w_heap : heapFits about1 = true := by decide +kernel
set_option maxRecDepth 65536 in
theorem w_runnable : about1.curStatus? = some .runnable := by decide +kernel
set_option maxRecDepth 65536 in
theorem w_alone : about1.alone = true := by decide +kernel
set_option maxRecDepth 65536 in
theorem w_named : about1.methodNamed? x = some theMethod := by decide +kernel
set_option maxRecDepth 65536 in
theorem w_hears : about1.hears theMethod below0 = true := by decide +kernel
set_option maxRecDepth 65536 in
theorem w_ripe : about1.ripe theMethod args0 below0 = true := by decide +kernel
theorem w_running : about1.status = .running := rfl
set_option maxRecDepth 65536 in
theorem w_room : about1.hasRoom e0.platform room_1 = true :=
  launch0.hasRoom_least _ room_1 (by decide +kernel) (by decide +kernel) (by decide +kernel) (by decide +kernel) (by decide +kernel) (by decide +kernel)
theorem allAtoms_all (ts : List Jvm.Cond) (a : Array Jvm.Value) (st : Jvm.State) : (allAtoms ts).before a st = ts.all (fun c => c.before a st) := by
  induction ts with
  | nil => rfl
  | cons c t ih =>
    show (Jvm.Cond.and c (allAtoms t)).before a st = _
    rw [Jvm.Cond.before_and, ih, List.all_cons]
def words1 : List Jvm.Cond := Jvm.Cond.code x code maxLocals ret :: tables_1
/-- a 'code' word, met by the world's own term for the bytes: nothing is compared byte by byte -/
theorem code_word {y : MethodName} {bytes : ByteArray} {mx : Nat} {rt : Option FieldType} {a : Array Value} {s : State} {m : MethodId} {meth : Method} {c : Code} (h1 : s.methodNamed? y = some m) (h2 : s.vm.method? m = some meth) (h3 : meth.code = some c) (h4 : c.code = bytes)
    (h5 : (c.maxLocals == mx && c.exceptionTable.isEmpty && decide (c.maxStack ≤ mostOperands) && decide (meth.sig.returnType = rt) && !meth.locks && decide (parseMethodDescriptor y.desc = some meth.sig)) = true) : (Jvm.Cond.code y bytes mx rt).before a s = true := by
  simp only [Bool.and_eq_true, beq_iff_eq, Bool.not_eq_true', decide_eq_true_eq] at h5
  obtain ⟨⟨⟨⟨⟨g1, g2⟩, g3⟩, g4⟩, g5⟩, g6⟩ := h5
  simp [Cond.before, Cond.holds, Cond.value, h1, h2, h3, h4, g1, g2, g3, g4, g5, g6]
def isCode : Jvm.Cond → Bool
  | .code _ _ _ _ => true
  | _ => false
theorem all_split {L : List Jvm.Cond} {P : Jvm.Cond → Bool} (h1 : L.all (fun c => isCode c || P c) = true) (h2 : ∀ c ∈ L.filter isCode, P c = true) : L.all P = true := by
  refine List.all_eq_true.mpr fun c hc => ?_
  have h := List.all_eq_true.mp h1 c hc
  rcases Bool.eq_false_or_eq_true (isCode c) with hi | hi
  · exact h2 c (List.mem_filter.mpr ⟨hc, hi⟩)
  · simpa [hi] using h
set_option maxRecDepth 65536 in
theorem w_c0 : (Jvm.Cond.code x code maxLocals ret).before args0 about1 = true := code_word (m := ⟨1, 1⟩) (meth := k1m1) (c := k1c1) (by decide +kernel) rfl rfl rfl (by decide +kernel)
set_option maxRecDepth 65536 in
theorem w_c1 : (Jvm.Cond.code ({ cls := "java/util/ArrayList", name := "<init>", desc := "()V" } : Jvm.MethodName) jdk_38_method_2_code (1 : Nat) (Option.none : Option Jvm.ClassFile.FieldType)).before args0 about1 = true := code_word (m := ⟨11, 1⟩) (meth := k11m1) (c := k11c1) (by decide +kernel) rfl rfl rfl (by decide +kernel)
set_option maxRecDepth 65536 in
theorem w_c2 : (Jvm.Cond.code ({ cls := "java/util/AbstractList", name := "<init>", desc := "()V" } : Jvm.MethodName) jdk_39_method_1_code (1 : Nat) (Option.none : Option Jvm.ClassFile.FieldType)).before args0 about1 = true := code_word (m := ⟨7, 0⟩) (meth := k7m0) (c := k7c0) (by decide +kernel) rfl rfl rfl (by decide +kernel)
set_option maxRecDepth 65536 in
theorem w_c3 : (Jvm.Cond.code ({ cls := "java/util/AbstractCollection", name := "<init>", desc := "()V" } : Jvm.MethodName) jdk_22_method_1_code (1 : Nat) (Option.none : Option Jvm.ClassFile.FieldType)).before args0 about1 = true := code_word (m := ⟨4, 0⟩) (meth := k4m0) (c := k4c0) (by decide +kernel) rfl rfl rfl (by decide +kernel)
set_option maxRecDepth 65536 in
theorem w_c4 : (Jvm.Cond.code ({ cls := "java/lang/Object", name := "<init>", desc := "()V" } : Jvm.MethodName) object_method_1_code (1 : Nat) (Option.none : Option Jvm.ClassFile.FieldType)).before args0 about1 = true := code_word (m := ⟨0, 0⟩) (meth := k0m0) (c := k0c0) (by decide +kernel) rfl rfl rfl (by decide +kernel)
set_option maxRecDepth 65536 in
theorem w_c5 : (Jvm.Cond.code ({ cls := "com/example/firm_warden/firmwarden/value/BagIsEmptyPinLaw", name := "pick", desc := "(II)Lcom/example/firm_warden/firmwarden/value/AttributeValue;" } : Jvm.MethodName) method_3_code (2 : Nat) (Option.some (Jvm.ClassFile.FieldType.object "com/example/firm_warden/firmwarden/value/AttributeValue"))).before args0 about1 = true := code_word (m := ⟨1, 2⟩) (meth := k1m2) (c := k1c2) (by decide +kernel) rfl rfl rfl (by decide +kernel)
set_option maxRecDepth 65536 in
theorem w_c6 : (Jvm.Cond.code ({ cls := "java/util/ArrayList", name := "add", desc := "(Ljava/lang/Object;)Z" } : Jvm.MethodName) jdk_38_method_25_code (2 : Nat) (Option.some Jvm.ClassFile.FieldType.boolean)).before args0 about1 = true := code_word (m := ⟨11, 10⟩) (meth := k11m10) (c := k11c10) (by decide +kernel) rfl rfl rfl (by decide +kernel)
set_option maxRecDepth 65536 in
theorem w_c7 : (Jvm.Cond.code ({ cls := "java/util/ArrayList", name := "add", desc := "(Ljava/lang/Object;[Ljava/lang/Object;I)V" } : Jvm.MethodName) jdk_38_method_24_code (4 : Nat) (Option.none : Option Jvm.ClassFile.FieldType)).before args0 about1 = true := code_word (m := ⟨11, 9⟩) (meth := k11m9) (c := k11c9) (by decide +kernel) rfl rfl rfl (by decide +kernel)
set_option maxRecDepth 65536 in
theorem w_c8 : (Jvm.Cond.code ({ cls := "java/util/ArrayList", name := "grow", desc := "()[Ljava/lang/Object;" } : Jvm.MethodName) jdk_38_method_7_code (1 : Nat) (Option.some (Jvm.ClassFile.FieldType.array (Jvm.ClassFile.FieldType.object "java/lang/Object")))).before args0 about1 = true := code_word (m := ⟨11, 3⟩) (meth := k11m3) (c := k11c3) (by decide +kernel) rfl rfl rfl (by decide +kernel)
set_option maxRecDepth 65536 in
theorem w_c9 : (Jvm.Cond.code ({ cls := "java/util/ArrayList", name := "grow", desc := "(I)[Ljava/lang/Object;" } : Jvm.MethodName) jdk_38_method_6_code (4 : Nat) (Option.some (Jvm.ClassFile.FieldType.array (Jvm.ClassFile.FieldType.object "java/lang/Object")))).before args0 about1 = true := code_word (m := ⟨11, 2⟩) (meth := k11m2) (c := k11c2) (by decide +kernel) rfl rfl rfl (by decide +kernel)
set_option maxRecDepth 65536 in
theorem w_c10 : (Jvm.Cond.code ({ cls := "java/lang/Math", name := "max", desc := "(II)I" } : Jvm.MethodName) jdk_29_method_65_code (2 : Nat) (Option.some Jvm.ClassFile.FieldType.int)).before args0 about1 = true := code_word (m := ⟨14, 1⟩) (meth := k14m1) (c := k14c1) (by decide +kernel) rfl rfl rfl (by decide +kernel)
set_option maxRecDepth 65536 in
theorem w_c11 : (Jvm.Cond.code ({ cls := "com/example/firm_warden/firmwarden/value/Bag", name := "<init>", desc := "(Lcom/example/firm_warden/firmwarden/value/DataType;Ljava/util/List;)V" } : Jvm.MethodName) prog_167_method_1_code (5 : Nat) (Option.none : Option Jvm.ClassFile.FieldType)).before args0 about1 = true := code_word (m := ⟨15, 0⟩) (meth := k15m0) (c := k15c0) (by decide +kernel) rfl rfl rfl (by decide +kernel)
set_option maxRecDepth 65536 in
theorem w_c12 : (Jvm.Cond.code ({ cls := "java/util/Objects", name := "requireNonNull", desc := "(Ljava/lang/Object;)Ljava/lang/Object;" } : Jvm.MethodName) jdk_31_method_10_code (1 : Nat) (Option.some (Jvm.ClassFile.FieldType.object "java/lang/Object"))).before args0 about1 = true := code_word (m := ⟨20, 1⟩) (meth := k20m1) (c := k20c1) (by decide +kernel) rfl rfl rfl (by decide +kernel)
set_option maxRecDepth 65536 in
theorem w_c13 : (Jvm.Cond.code ({ cls := "java/util/List", name := "copyOf", desc := "(Ljava/util/Collection;)Ljava/util/List;" } : Jvm.MethodName) jdk_40_method_48_code (1 : Nat) (Option.some (Jvm.ClassFile.FieldType.object "java/util/List"))).before args0 about1 = true := code_word (m := ⟨6, 6⟩) (meth := k6m6) (c := k6c6) (by decide +kernel) rfl rfl rfl (by decide +kernel)
set_option maxRecDepth 65536 in
theorem w_c14 : (Jvm.Cond.code ({ cls := "java/util/ImmutableCollections", name := "listCopy", desc := "(Ljava/util/Collection;)Ljava/util/List;" } : Jvm.MethodName) jdk_56_method_3_code (2 : Nat) (Option.some (Jvm.ClassFile.FieldType.object "java/util/List"))).before args0 about1 = true := code_word (m := ⟨21, 1⟩) (meth := k21m1) (c := k21c1) (by decide +kernel) rfl rfl rfl (by decide +kernel)
set_option maxRecDepth 65536 in
theorem w_c15 : (Jvm.Cond.code ({ cls := "java/util/ArrayList", name := "isEmpty", desc := "()Z" } : Jvm.MethodName) jdk_38_method_9_code (1 : Nat) (Option.some Jvm.ClassFile.FieldType.boolean)).before args0 about1 = true := code_word (m := ⟨11, 5⟩) (meth := k11m5) (c := k11c5) (by decide +kernel) rfl rfl rfl (by decide +kernel)
set_option maxRecDepth 65536 in
theorem w_c16 : (Jvm.Cond.code ({ cls := "java/util/List", name := "of", desc := "()Ljava/util/List;" } : Jvm.MethodName) jdk_40_method_36_code (0 : Nat) (Option.some (Jvm.ClassFile.FieldType.object "java/util/List"))).before args0 about1 = true := code_word (m := ⟨6, 4⟩) (meth := k6m4) (c := k6c4) (by decide +kernel) rfl rfl rfl (by decide +kernel)
set_option maxRecDepth 65536 in
theorem w_c17 : (Jvm.Cond.code ({ cls := "java/util/ImmutableCollections$ListN", name := "size", desc := "()I" } : Jvm.MethodName) jdk_45_method_3_code (1 : Nat) (Option.some Jvm.ClassFile.FieldType.int)).before args0 about1 = true := code_word (m := ⟨25, 1⟩) (meth := k25m1) (c := k25c1) (by decide +kernel) rfl rfl rfl (by decide +kernel)
set_option maxRecDepth 65536 in
theorem w_c18 : (Jvm.Cond.code ({ cls := "java/util/ImmutableCollections$AbstractImmutableList", name := "iterator", desc := "()Ljava/util/Iterator;" } : Jvm.MethodName) jdk_46_method_10_code (1 : Nat) (Option.some (Jvm.ClassFile.FieldType.object "java/util/Iterator"))).before args0 about1 = true := code_word (m := ⟨23, 1⟩) (meth := k23m1) (c := k23c1) (by decide +kernel) rfl rfl rfl (by decide +kernel)
set_option maxRecDepth 65536 in
theorem w_c19 : (Jvm.Cond.code ({ cls := "java/util/ImmutableCollections$ListItr", name := "<init>", desc := "(Ljava/util/List;I)V" } : Jvm.MethodName) jdk_53_method_1_code (3 : Nat) (Option.none : Option Jvm.ClassFile.FieldType)).before args0 about1 = true := code_word (m := ⟨28, 0⟩) (meth := k28m0) (c := k28c0) (by decide +kernel) rfl rfl rfl (by decide +kernel)
set_option maxRecDepth 65536 in
theorem w_c20 : (Jvm.Cond.code ({ cls := "java/util/ImmutableCollections$ListItr", name := "hasNext", desc := "()Z" } : Jvm.MethodName) jdk_53_method_3_code (1 : Nat) (Option.some Jvm.ClassFile.FieldType.boolean)).before args0 about1 = true := code_word (m := ⟨28, 1⟩) (meth := k28m1) (c := k28c1) (by decide +kernel) rfl rfl rfl (by decide +kernel)
set_option maxRecDepth 65536 in
theorem w_c21 : (Jvm.Cond.code ({ cls := "java/util/ArrayList", name := "toArray", desc := "()[Ljava/lang/Object;" } : Jvm.MethodName) jdk_38_method_16_code (1 : Nat) (Option.some (Jvm.ClassFile.FieldType.array (Jvm.ClassFile.FieldType.object "java/lang/Object")))).before args0 about1 = true := code_word (m := ⟨11, 6⟩) (meth := k11m6) (c := k11c6) (by decide +kernel) rfl rfl rfl (by decide +kernel)
set_option maxRecDepth 65536 in
theorem w_c22 : (Jvm.Cond.code ({ cls := "java/util/Arrays", name := "copyOf", desc := "([Ljava/lang/Object;I)[Ljava/lang/Object;" } : Jvm.MethodName) jdk_65_method_119_code (2 : Nat) (Option.some (Jvm.ClassFile.FieldType.array (Jvm.ClassFile.FieldType.object "java/lang/Object")))).before args0 about1 = true := code_word (m := ⟨29, 1⟩) (meth := k29m1) (c := k29c1) (by decide +kernel) rfl rfl rfl (by decide +kernel)
set_option maxRecDepth 65536 in
theorem w_c23 : (Jvm.Cond.code ({ cls := "java/util/Arrays", name := "copyOf", desc := "([Ljava/lang/Object;ILjava/lang/Class;)[Ljava/lang/Object;" } : Jvm.MethodName) jdk_65_method_120_code (4 : Nat) (Option.some (Jvm.ClassFile.FieldType.array (Jvm.ClassFile.FieldType.object "java/lang/Object")))).before args0 about1 = true := code_word (m := ⟨29, 2⟩) (meth := k29m2) (c := k29c2) (by decide +kernel) rfl rfl rfl (by decide +kernel)
set_option maxRecDepth 65536 in
theorem w_c24 : (Jvm.Cond.code ({ cls := "java/lang/Math", name := "min", desc := "(II)I" } : Jvm.MethodName) jdk_29_method_69_code (2 : Nat) (Option.some Jvm.ClassFile.FieldType.int)).before args0 about1 = true := code_word (m := ⟨14, 2⟩) (meth := k14m2) (c := k14c2) (by decide +kernel) rfl rfl rfl (by decide +kernel)
set_option maxRecDepth 65536 in
theorem w_c25 : (Jvm.Cond.code ({ cls := "java/util/List", name := "of", desc := "([Ljava/lang/Object;)Ljava/util/List;" } : Jvm.MethodName) jdk_40_method_47_code (2 : Nat) (Option.some (Jvm.ClassFile.FieldType.object "java/util/List"))).before args0 about1 = true := code_word (m := ⟨6, 5⟩) (meth := k6m5) (c := k6c5) (by decide +kernel) rfl rfl rfl (by decide +kernel)
set_option maxRecDepth 65536 in
theorem w_c26 : (Jvm.Cond.code ({ cls := "java/util/ImmutableCollections", name := "listFromArray", desc := "([Ljava/lang/Object;)Ljava/util/List;" } : Jvm.MethodName) jdk_56_method_4_code (3 : Nat) (Option.some (Jvm.ClassFile.FieldType.object "java/util/List"))).before args0 about1 = true := code_word (m := ⟨21, 2⟩) (meth := k21m2) (c := k21c2) (by decide +kernel) rfl rfl rfl (by decide +kernel)
set_option maxRecDepth 65536 in
theorem w_c27 : (Jvm.Cond.code ({ cls := "java/util/ImmutableCollections$ListN", name := "<init>", desc := "([Ljava/lang/Object;Z)V" } : Jvm.MethodName) jdk_45_method_1_code (3 : Nat) (Option.none : Option Jvm.ClassFile.FieldType)).before args0 about1 = true := code_word (m := ⟨25, 0⟩) (meth := k25m0) (c := k25c0) (by decide +kernel) rfl rfl rfl (by decide +kernel)
set_option maxRecDepth 65536 in
theorem w_c28 : (Jvm.Cond.code ({ cls := "java/util/ImmutableCollections$AbstractImmutableList", name := "<init>", desc := "()V" } : Jvm.MethodName) jdk_46_method_1_code (1 : Nat) (Option.none : Option Jvm.ClassFile.FieldType)).before args0 about1 = true := code_word (m := ⟨23, 0⟩) (meth := k23m0) (c := k23c0) (by decide +kernel) rfl rfl rfl (by decide +kernel)
set_option maxRecDepth 65536 in
theorem w_c29 : (Jvm.Cond.code ({ cls := "java/util/ImmutableCollections$AbstractImmutableCollection", name := "<init>", desc := "()V" } : Jvm.MethodName) jdk_47_method_1_code (1 : Nat) (Option.none : Option Jvm.ClassFile.FieldType)).before args0 about1 = true := code_word (m := ⟨22, 0⟩) (meth := k22m0) (c := k22c0) (by decide +kernel) rfl rfl rfl (by decide +kernel)
set_option maxRecDepth 65536 in
theorem w_c30 : (Jvm.Cond.code ({ cls := "java/util/ImmutableCollections$ListN", name := "get", desc := "(I)Ljava/lang/Object;" } : Jvm.MethodName) jdk_45_method_4_code (2 : Nat) (Option.some (Jvm.ClassFile.FieldType.object "java/lang/Object"))).before args0 about1 = true := code_word (m := ⟨25, 2⟩) (meth := k25m2) (c := k25c2) (by decide +kernel) rfl rfl rfl (by decide +kernel)
set_option maxRecDepth 65536 in
theorem w_c31 : (Jvm.Cond.code ({ cls := "com/example/firm_warden/firmwarden/value/AttributeValue", name := "dataType", desc := "()Lcom/example/firm_warden/firmwarden/value/DataType;" } : Jvm.MethodName) prog_166_method_11_code (1 : Nat) (Option.some (Jvm.ClassFile.FieldType.object "com/example/firm_warden/firmwarden/value/DataType"))).before args0 about1 = true := code_word (m := ⟨13, 0⟩) (meth := k13m0) (c := k13c0) (by decide +kernel) rfl rfl rfl (by decide +kernel)
set_option maxRecDepth 65536 in
theorem w_c32 : (Jvm.Cond.code ({ cls := "com/example/firm_warden/firmwarden/value/Bag", name := "joined", desc := "(Lcom/example/firm_warden/firmwarden/value/DataType;Ljava/util/List;)Lcom/example/firm_warden/firmwarden/value/Bag;" } : Jvm.MethodName) prog_167_method_3_code (6 : Nat) (Option.some (Jvm.ClassFile.FieldType.object "com/example/firm_warden/firmwarden/value/Bag"))).before args0 about1 = true := code_word (m := ⟨15, 2⟩) (meth := k15m2) (c := k15c2) (by decide +kernel) rfl rfl rfl (by decide +kernel)
set_option maxRecDepth 65536 in
theorem w_c33 : (Jvm.Cond.code ({ cls := "java/util/ArrayList", name := "size", desc := "()I" } : Jvm.MethodName) jdk_38_method_8_code (1 : Nat) (Option.some Jvm.ClassFile.FieldType.int)).before args0 about1 = true := code_word (m := ⟨11, 4⟩) (meth := k11m4) (c := k11c4) (by decide +kernel) rfl rfl rfl (by decide +kernel)
set_option maxRecDepth 65536 in
theorem w_c34 : (Jvm.Cond.code ({ cls := "java/util/ArrayList", name := "<init>", desc := "(I)V" } : Jvm.MethodName) jdk_38_method_1_code (2 : Nat) (Option.none : Option Jvm.ClassFile.FieldType)).before args0 about1 = true := code_word (m := ⟨11, 0⟩) (meth := k11m0) (c := k11c0) (by decide +kernel) rfl rfl rfl (by decide +kernel)
set_option maxRecDepth 65536 in
theorem w_c35 : (Jvm.Cond.code ({ cls := "java/util/ArrayList", name := "iterator", desc := "()Ljava/util/Iterator;" } : Jvm.MethodName) jdk_38_method_55_code (1 : Nat) (Option.some (Jvm.ClassFile.FieldType.object "java/util/Iterator"))).before args0 about1 = true := code_word (m := ⟨11, 11⟩) (meth := k11m11) (c := k11c11) (by decide +kernel) rfl rfl rfl (by decide +kernel)
set_option maxRecDepth 65536 in
theorem w_c36 : (Jvm.Cond.code ({ cls := "java/util/ArrayList$Itr", name := "<init>", desc := "(Ljava/util/ArrayList;)V" } : Jvm.MethodName) jdk_49_method_1_code (2 : Nat) (Option.none : Option Jvm.ClassFile.FieldType)).before args0 about1 = true := code_word (m := ⟨31, 0⟩) (meth := k31m0) (c := k31c0) (by decide +kernel) rfl rfl rfl (by decide +kernel)
set_option maxRecDepth 65536 in
theorem w_c37 : (Jvm.Cond.code ({ cls := "java/util/ArrayList$Itr", name := "hasNext", desc := "()Z" } : Jvm.MethodName) jdk_49_method_2_code (1 : Nat) (Option.some Jvm.ClassFile.FieldType.boolean)).before args0 about1 = true := code_word (m := ⟨31, 1⟩) (meth := k31m1) (c := k31c1) (by decide +kernel) rfl rfl rfl (by decide +kernel)
set_option maxRecDepth 65536 in
theorem w_c38 : (Jvm.Cond.code ({ cls := "java/util/ArrayList$Itr", name := "next", desc := "()Ljava/lang/Object;" } : Jvm.MethodName) jdk_49_method_3_code (3 : Nat) (Option.some (Jvm.ClassFile.FieldType.object "java/lang/Object"))).before args0 about1 = true := code_word (m := ⟨31, 2⟩) (meth := k31m2) (c := k31c2) (by decide +kernel) rfl rfl rfl (by decide +kernel)
set_option maxRecDepth 65536 in
theorem w_c39 : (Jvm.Cond.code ({ cls := "java/util/ArrayList$Itr", name := "checkForComodification", desc := "()V" } : Jvm.MethodName) jdk_49_method_6_code (1 : Nat) (Option.none : Option Jvm.ClassFile.FieldType)).before args0 about1 = true := code_word (m := ⟨31, 3⟩) (meth := k31m3) (c := k31c3) (by decide +kernel) rfl rfl rfl (by decide +kernel)
set_option maxRecDepth 65536 in
theorem w_c40 : (Jvm.Cond.code ({ cls := "com/example/firm_warden/firmwarden/value/Bag", name := "isEmpty", desc := "()Z" } : Jvm.MethodName) prog_167_method_8_code (1 : Nat) (Option.some Jvm.ClassFile.FieldType.boolean)).before args0 about1 = true := code_word (m := ⟨15, 3⟩) (meth := k15m3) (c := k15c3) (by decide +kernel) rfl rfl rfl (by decide +kernel)
set_option maxRecDepth 65536 in
theorem w_c41 : (Jvm.Cond.code ({ cls := "java/util/ArrayList", name := "get", desc := "(I)Ljava/lang/Object;" } : Jvm.MethodName) jdk_38_method_20_code (2 : Nat) (Option.some (Jvm.ClassFile.FieldType.object "java/lang/Object"))).before args0 about1 = true := code_word (m := ⟨11, 8⟩) (meth := k11m8) (c := k11c8) (by decide +kernel) rfl rfl rfl (by decide +kernel)
set_option maxRecDepth 65536 in
theorem w_c42 : (Jvm.Cond.code ({ cls := "java/util/Objects", name := "checkIndex", desc := "(II)I" } : Jvm.MethodName) jdk_31_method_17_code (2 : Nat) (Option.some Jvm.ClassFile.FieldType.int)).before args0 about1 = true := code_word (m := ⟨20, 2⟩) (meth := k20m2) (c := k20c2) (by decide +kernel) rfl rfl rfl (by decide +kernel)
set_option maxRecDepth 65536 in
theorem w_c43 : (Jvm.Cond.code ({ cls := "jdk/internal/util/Preconditions", name := "checkIndex", desc := "(IILjava/util/function/BiFunction;)I" } : Jvm.MethodName) jdk_41_method_11_code (3 : Nat) (Option.some Jvm.ClassFile.FieldType.int)).before args0 about1 = true := code_word (m := ⟨32, 1⟩) (meth := k32m1) (c := k32c1) (by decide +kernel) rfl rfl rfl (by decide +kernel)
set_option maxRecDepth 65536 in
theorem w_c44 : (Jvm.Cond.code ({ cls := "java/util/ArrayList", name := "elementData", desc := "(I)Ljava/lang/Object;" } : Jvm.MethodName) jdk_38_method_18_code (2 : Nat) (Option.some (Jvm.ClassFile.FieldType.object "java/lang/Object"))).before args0 about1 = true := code_word (m := ⟨11, 7⟩) (meth := k11m7) (c := k11c7) (by decide +kernel) rfl rfl rfl (by decide +kernel)
set_option maxRecDepth 65536 in
theorem w_c45 : (Jvm.Cond.code ({ cls := "java/util/ImmutableCollections$List12", name := "<init>", desc := "(Ljava/lang/Object;)V" } : Jvm.MethodName) jdk_44_method_1_code (2 : Nat) (Option.none : Option Jvm.ClassFile.FieldType)).before args0 about1 = true := code_word (m := ⟨24, 0⟩) (meth := k24m0) (c := k24c0) (by decide +kernel) rfl rfl rfl (by decide +kernel)
set_option maxRecDepth 65536 in
theorem w_c46 : (Jvm.Cond.code ({ cls := "java/util/ImmutableCollections$List12", name := "size", desc := "()I" } : Jvm.MethodName) jdk_44_method_3_code (1 : Nat) (Option.some Jvm.ClassFile.FieldType.int)).before args0 about1 = true := code_word (m := ⟨24, 2⟩) (meth := k24m2) (c := k24c2) (by decide +kernel) rfl rfl rfl (by decide +kernel)
set_option maxRecDepth 65536 in
theorem w_c47 : (Jvm.Cond.code ({ cls := "java/util/ImmutableCollections$List12", name := "get", desc := "(I)Ljava/lang/Object;" } : Jvm.MethodName) jdk_44_method_5_code (2 : Nat) (Option.some (Jvm.ClassFile.FieldType.object "java/lang/Object"))).before args0 about1 = true := code_word (m := ⟨24, 3⟩) (meth := k24m3) (c := k24c3) (by decide +kernel) rfl rfl rfl (by decide +kernel)
set_option maxRecDepth 65536 in
theorem w_c48 : (Jvm.Cond.code ({ cls := "java/util/ImmutableCollections$List12", name := "<init>", desc := "(Ljava/lang/Object;Ljava/lang/Object;)V" } : Jvm.MethodName) jdk_44_method_2_code (3 : Nat) (Option.none : Option Jvm.ClassFile.FieldType)).before args0 about1 = true := code_word (m := ⟨24, 1⟩) (meth := k24m1) (c := k24c1) (by decide +kernel) rfl rfl rfl (by decide +kernel)
set_option maxRecDepth 65536 in
theorem w_c49 : (Jvm.Cond.code ({ cls := "com/example/firm_warden/firmwarden/value/Bag", name := "<init>", desc := "(Lcom/example/firm_warden/firmwarden/value/DataType;Ljava/util/List;I)V" } : Jvm.MethodName) prog_167_method_2_code (4 : Nat) (Option.none : Option Jvm.ClassFile.FieldType)).before args0 about1 = true := code_word (m := ⟨15, 1⟩) (meth := k15m1) (c := k15c1) (by decide +kernel) rfl rfl rfl (by decide +kernel)
def codes1 : List Jvm.Cond := [Jvm.Cond.code x code maxLocals ret, Jvm.Cond.code ({ cls := "java/util/ArrayList", name := "<init>", desc := "()V" } : Jvm.MethodName) jdk_38_method_2_code (1 : Nat) (Option.none : Option Jvm.ClassFile.FieldType), Jvm.Cond.code ({ cls := "java/util/AbstractList", name := "<init>", desc := "()V" } : Jvm.MethodName) jdk_39_method_1_code (1 : Nat) (Option.none : Option Jvm.ClassFile.FieldType), Jvm.Cond.code ({ cls := "java/util/AbstractCollection", name := "<init>", desc := "()V" } : Jvm.MethodName) jdk_22_method_1_code (1 : Nat) (Option.none : Option Jvm.ClassFile.FieldType), Jvm.Cond.code ({ cls := "java/lang/Object", name := "<init>", desc := "()V" } : Jvm.MethodName) object_method_1_code (1 : Nat) (Option.none : Option Jvm.ClassFile.FieldType), Jvm.Cond.code ({ cls := "com/example/firm_warden/firmwarden/value/BagIsEmptyPinLaw", name := "pick", desc := "(II)Lcom/example/firm_warden/firmwarden/value/AttributeValue;" } : Jvm.MethodName) method_3_code (2 : Nat) (Option.some (Jvm.ClassFile.FieldType.object "com/example/firm_warden/firmwarden/value/AttributeValue")), Jvm.Cond.code ({ cls := "java/util/ArrayList", name := "add", desc := "(Ljava/lang/Object;)Z" } : Jvm.MethodName) jdk_38_method_25_code (2 : Nat) (Option.some Jvm.ClassFile.FieldType.boolean), Jvm.Cond.code ({ cls := "java/util/ArrayList", name := "add", desc := "(Ljava/lang/Object;[Ljava/lang/Object;I)V" } : Jvm.MethodName) jdk_38_method_24_code (4 : Nat) (Option.none : Option Jvm.ClassFile.FieldType), Jvm.Cond.code ({ cls := "java/util/ArrayList", name := "grow", desc := "()[Ljava/lang/Object;" } : Jvm.MethodName) jdk_38_method_7_code (1 : Nat) (Option.some (Jvm.ClassFile.FieldType.array (Jvm.ClassFile.FieldType.object "java/lang/Object"))), Jvm.Cond.code ({ cls := "java/util/ArrayList", name := "grow", desc := "(I)[Ljava/lang/Object;" } : Jvm.MethodName) jdk_38_method_6_code (4 : Nat) (Option.some (Jvm.ClassFile.FieldType.array (Jvm.ClassFile.FieldType.object "java/lang/Object"))), Jvm.Cond.code ({ cls := "java/lang/Math", name := "max", desc := "(II)I" } : Jvm.MethodName) jdk_29_method_65_code (2 : Nat) (Option.some Jvm.ClassFile.FieldType.int), Jvm.Cond.code ({ cls := "com/example/firm_warden/firmwarden/value/Bag", name := "<init>", desc := "(Lcom/example/firm_warden/firmwarden/value/DataType;Ljava/util/List;)V" } : Jvm.MethodName) prog_167_method_1_code (5 : Nat) (Option.none : Option Jvm.ClassFile.FieldType), Jvm.Cond.code ({ cls := "java/util/Objects", name := "requireNonNull", desc := "(Ljava/lang/Object;)Ljava/lang/Object;" } : Jvm.MethodName) jdk_31_method_10_code (1 : Nat) (Option.some (Jvm.ClassFile.FieldType.object "java/lang/Object")), Jvm.Cond.code ({ cls := "java/util/List", name := "copyOf", desc := "(Ljava/util/Collection;)Ljava/util/List;" } : Jvm.MethodName) jdk_40_method_48_code (1 : Nat) (Option.some (Jvm.ClassFile.FieldType.object "java/util/List")), Jvm.Cond.code ({ cls := "java/util/ImmutableCollections", name := "listCopy", desc := "(Ljava/util/Collection;)Ljava/util/List;" } : Jvm.MethodName) jdk_56_method_3_code (2 : Nat) (Option.some (Jvm.ClassFile.FieldType.object "java/util/List")), Jvm.Cond.code ({ cls := "java/util/ArrayList", name := "isEmpty", desc := "()Z" } : Jvm.MethodName) jdk_38_method_9_code (1 : Nat) (Option.some Jvm.ClassFile.FieldType.boolean), Jvm.Cond.code ({ cls := "java/util/List", name := "of", desc := "()Ljava/util/List;" } : Jvm.MethodName) jdk_40_method_36_code (0 : Nat) (Option.some (Jvm.ClassFile.FieldType.object "java/util/List")), Jvm.Cond.code ({ cls := "java/util/ImmutableCollections$ListN", name := "size", desc := "()I" } : Jvm.MethodName) jdk_45_method_3_code (1 : Nat) (Option.some Jvm.ClassFile.FieldType.int), Jvm.Cond.code ({ cls := "java/util/ImmutableCollections$AbstractImmutableList", name := "iterator", desc := "()Ljava/util/Iterator;" } : Jvm.MethodName) jdk_46_method_10_code (1 : Nat) (Option.some (Jvm.ClassFile.FieldType.object "java/util/Iterator")), Jvm.Cond.code ({ cls := "java/util/ImmutableCollections$ListItr", name := "<init>", desc := "(Ljava/util/List;I)V" } : Jvm.MethodName) jdk_53_method_1_code (3 : Nat) (Option.none : Option Jvm.ClassFile.FieldType), Jvm.Cond.code ({ cls := "java/util/ImmutableCollections$ListItr", name := "hasNext", desc := "()Z" } : Jvm.MethodName) jdk_53_method_3_code (1 : Nat) (Option.some Jvm.ClassFile.FieldType.boolean), Jvm.Cond.code ({ cls := "java/util/ArrayList", name := "toArray", desc := "()[Ljava/lang/Object;" } : Jvm.MethodName) jdk_38_method_16_code (1 : Nat) (Option.some (Jvm.ClassFile.FieldType.array (Jvm.ClassFile.FieldType.object "java/lang/Object"))), Jvm.Cond.code ({ cls := "java/util/Arrays", name := "copyOf", desc := "([Ljava/lang/Object;I)[Ljava/lang/Object;" } : Jvm.MethodName) jdk_65_method_119_code (2 : Nat) (Option.some (Jvm.ClassFile.FieldType.array (Jvm.ClassFile.FieldType.object "java/lang/Object"))), Jvm.Cond.code ({ cls := "java/util/Arrays", name := "copyOf", desc := "([Ljava/lang/Object;ILjava/lang/Class;)[Ljava/lang/Object;" } : Jvm.MethodName) jdk_65_method_120_code (4 : Nat) (Option.some (Jvm.ClassFile.FieldType.array (Jvm.ClassFile.FieldType.object "java/lang/Object"))), Jvm.Cond.code ({ cls := "java/lang/Math", name := "min", desc := "(II)I" } : Jvm.MethodName) jdk_29_method_69_code (2 : Nat) (Option.some Jvm.ClassFile.FieldType.int), Jvm.Cond.code ({ cls := "java/util/List", name := "of", desc := "([Ljava/lang/Object;)Ljava/util/List;" } : Jvm.MethodName) jdk_40_method_47_code (2 : Nat) (Option.some (Jvm.ClassFile.FieldType.object "java/util/List")), Jvm.Cond.code ({ cls := "java/util/ImmutableCollections", name := "listFromArray", desc := "([Ljava/lang/Object;)Ljava/util/List;" } : Jvm.MethodName) jdk_56_method_4_code (3 : Nat) (Option.some (Jvm.ClassFile.FieldType.object "java/util/List")), Jvm.Cond.code ({ cls := "java/util/ImmutableCollections$ListN", name := "<init>", desc := "([Ljava/lang/Object;Z)V" } : Jvm.MethodName) jdk_45_method_1_code (3 : Nat) (Option.none : Option Jvm.ClassFile.FieldType), Jvm.Cond.code ({ cls := "java/util/ImmutableCollections$AbstractImmutableList", name := "<init>", desc := "()V" } : Jvm.MethodName) jdk_46_method_1_code (1 : Nat) (Option.none : Option Jvm.ClassFile.FieldType), Jvm.Cond.code ({ cls := "java/util/ImmutableCollections$AbstractImmutableCollection", name := "<init>", desc := "()V" } : Jvm.MethodName) jdk_47_method_1_code (1 : Nat) (Option.none : Option Jvm.ClassFile.FieldType), Jvm.Cond.code ({ cls := "java/util/ImmutableCollections$ListN", name := "get", desc := "(I)Ljava/lang/Object;" } : Jvm.MethodName) jdk_45_method_4_code (2 : Nat) (Option.some (Jvm.ClassFile.FieldType.object "java/lang/Object")), Jvm.Cond.code ({ cls := "com/example/firm_warden/firmwarden/value/AttributeValue", name := "dataType", desc := "()Lcom/example/firm_warden/firmwarden/value/DataType;" } : Jvm.MethodName) prog_166_method_11_code (1 : Nat) (Option.some (Jvm.ClassFile.FieldType.object "com/example/firm_warden/firmwarden/value/DataType")), Jvm.Cond.code ({ cls := "com/example/firm_warden/firmwarden/value/Bag", name := "joined", desc := "(Lcom/example/firm_warden/firmwarden/value/DataType;Ljava/util/List;)Lcom/example/firm_warden/firmwarden/value/Bag;" } : Jvm.MethodName) prog_167_method_3_code (6 : Nat) (Option.some (Jvm.ClassFile.FieldType.object "com/example/firm_warden/firmwarden/value/Bag")), Jvm.Cond.code ({ cls := "java/util/ArrayList", name := "size", desc := "()I" } : Jvm.MethodName) jdk_38_method_8_code (1 : Nat) (Option.some Jvm.ClassFile.FieldType.int), Jvm.Cond.code ({ cls := "java/util/ArrayList", name := "<init>", desc := "(I)V" } : Jvm.MethodName) jdk_38_method_1_code (2 : Nat) (Option.none : Option Jvm.ClassFile.FieldType), Jvm.Cond.code ({ cls := "java/util/ArrayList", name := "iterator", desc := "()Ljava/util/Iterator;" } : Jvm.MethodName) jdk_38_method_55_code (1 : Nat) (Option.some (Jvm.ClassFile.FieldType.object "java/util/Iterator")), Jvm.Cond.code ({ cls := "java/util/ArrayList$Itr", name := "<init>", desc := "(Ljava/util/ArrayList;)V" } : Jvm.MethodName) jdk_49_method_1_code (2 : Nat) (Option.none : Option Jvm.ClassFile.FieldType), Jvm.Cond.code ({ cls := "java/util/ArrayList$Itr", name := "hasNext", desc := "()Z" } : Jvm.MethodName) jdk_49_method_2_code (1 : Nat) (Option.some Jvm.ClassFile.FieldType.boolean), Jvm.Cond.code ({ cls := "java/util/ArrayList$Itr", name := "next", desc := "()Ljava/lang/Object;" } : Jvm.MethodName) jdk_49_method_3_code (3 : Nat) (Option.some (Jvm.ClassFile.FieldType.object "java/lang/Object")), Jvm.Cond.code ({ cls := "java/util/ArrayList$Itr", name := "checkForComodification", desc := "()V" } : Jvm.MethodName) jdk_49_method_6_code (1 : Nat) (Option.none : Option Jvm.ClassFile.FieldType), Jvm.Cond.code ({ cls := "com/example/firm_warden/firmwarden/value/Bag", name := "isEmpty", desc := "()Z" } : Jvm.MethodName) prog_167_method_8_code (1 : Nat) (Option.some Jvm.ClassFile.FieldType.boolean), Jvm.Cond.code ({ cls := "java/util/ArrayList", name := "get", desc := "(I)Ljava/lang/Object;" } : Jvm.MethodName) jdk_38_method_20_code (2 : Nat) (Option.some (Jvm.ClassFile.FieldType.object "java/lang/Object")), Jvm.Cond.code ({ cls := "java/util/Objects", name := "checkIndex", desc := "(II)I" } : Jvm.MethodName) jdk_31_method_17_code (2 : Nat) (Option.some Jvm.ClassFile.FieldType.int), Jvm.Cond.code ({ cls := "jdk/internal/util/Preconditions", name := "checkIndex", desc := "(IILjava/util/function/BiFunction;)I" } : Jvm.MethodName) jdk_41_method_11_code (3 : Nat) (Option.some Jvm.ClassFile.FieldType.int), Jvm.Cond.code ({ cls := "java/util/ArrayList", name := "elementData", desc := "(I)Ljava/lang/Object;" } : Jvm.MethodName) jdk_38_method_18_code (2 : Nat) (Option.some (Jvm.ClassFile.FieldType.object "java/lang/Object")), Jvm.Cond.code ({ cls := "java/util/ImmutableCollections$List12", name := "<init>", desc := "(Ljava/lang/Object;)V" } : Jvm.MethodName) jdk_44_method_1_code (2 : Nat) (Option.none : Option Jvm.ClassFile.FieldType), Jvm.Cond.code ({ cls := "java/util/ImmutableCollections$List12", name := "size", desc := "()I" } : Jvm.MethodName) jdk_44_method_3_code (1 : Nat) (Option.some Jvm.ClassFile.FieldType.int), Jvm.Cond.code ({ cls := "java/util/ImmutableCollections$List12", name := "get", desc := "(I)Ljava/lang/Object;" } : Jvm.MethodName) jdk_44_method_5_code (2 : Nat) (Option.some (Jvm.ClassFile.FieldType.object "java/lang/Object")), Jvm.Cond.code ({ cls := "java/util/ImmutableCollections$List12", name := "<init>", desc := "(Ljava/lang/Object;Ljava/lang/Object;)V" } : Jvm.MethodName) jdk_44_method_2_code (3 : Nat) (Option.none : Option Jvm.ClassFile.FieldType), Jvm.Cond.code ({ cls := "com/example/firm_warden/firmwarden/value/Bag", name := "<init>", desc := "(Lcom/example/firm_warden/firmwarden/value/DataType;Ljava/util/List;I)V" } : Jvm.MethodName) prog_167_method_2_code (4 : Nat) (Option.none : Option Jvm.ClassFile.FieldType)]
set_option maxRecDepth 65536 in
theorem codes_eq : words1.filter isCode = codes1 := rfl
theorem w_codes : ∀ c ∈ words1.filter isCode, c.before args0 about1 = true := by
  rw [codes_eq]
  intro c hc
  simp only [codes1, List.mem_cons, List.not_mem_nil, or_false] at hc
  rcases hc with rfl | rfl | rfl | rfl | rfl | rfl | rfl | rfl | rfl | rfl | rfl | rfl | rfl | rfl | rfl | rfl | rfl | rfl | rfl | rfl | rfl | rfl | rfl | rfl | rfl | rfl | rfl | rfl | rfl | rfl | rfl | rfl | rfl | rfl | rfl | rfl | rfl | rfl | rfl | rfl | rfl | rfl | rfl | rfl | rfl | rfl | rfl | rfl | rfl | rfl
  · exact w_c0
  · exact w_c1
  · exact w_c2
  · exact w_c3
  · exact w_c4
  · exact w_c5
  · exact w_c6
  · exact w_c7
  · exact w_c8
  · exact w_c9
  · exact w_c10
  · exact w_c11
  · exact w_c12
  · exact w_c13
  · exact w_c14
  · exact w_c15
  · exact w_c16
  · exact w_c17
  · exact w_c18
  · exact w_c19
  · exact w_c20
  · exact w_c21
  · exact w_c22
  · exact w_c23
  · exact w_c24
  · exact w_c25
  · exact w_c26
  · exact w_c27
  · exact w_c28
  · exact w_c29
  · exact w_c30
  · exact w_c31
  · exact w_c32
  · exact w_c33
  · exact w_c34
  · exact w_c35
  · exact w_c36
  · exact w_c37
  · exact w_c38
  · exact w_c39
  · exact w_c40
  · exact w_c41
  · exact w_c42
  · exact w_c43
  · exact w_c44
  · exact w_c45
  · exact w_c46
  · exact w_c47
  · exact w_c48
  · exact w_c49
set_option maxRecDepth 65536 in
theorem w_t1 : (words1.take 24).all (fun c => isCode c || c.before args0 about1) = true := by decide +kernel
set_option maxRecDepth 65536 in
theorem w_t2 : ((words1.drop 24).take 24).all (fun c => isCode c || c.before args0 about1) = true := by decide +kernel
set_option maxRecDepth 65536 in
theorem w_t3 : (((words1.drop 24).drop 24).take 24).all (fun c => isCode c || c.before args0 about1) = true := by decide +kernel
set_option maxRecDepth 65536 in
theorem w_t4 : ((((words1.drop 24).drop 24).drop 24).take 24).all (fun c => isCode c || c.before args0 about1) = true := by decide +kernel
set_option maxRecDepth 65536 in
theorem w_t5 : (((((words1.drop 24).drop 24).drop 24).drop 24).take 24).all (fun c => isCode c || c.before args0 about1) = true := by decide +kernel
set_option maxRecDepth 65536 in
theorem w_t6 : ((((((words1.drop 24).drop 24).drop 24).drop 24).drop 24).take 24).all (fun c => isCode c || c.before args0 about1) = true := by decide +kernel
set_option maxRecDepth 65536 in
theorem w_t7 : (((((((words1.drop 24).drop 24).drop 24).drop 24).drop 24).drop 24).take 24).all (fun c => isCode c || c.before args0 about1) = true := by decide +kernel
set_option maxRecDepth 65536 in
theorem w_t8 : ((((((((words1.drop 24).drop 24).drop 24).drop 24).drop 24).drop 24).drop 24).take 24).all (fun c => isCode c || c.before args0 about1) = true := by decide +kernel
set_option maxRecDepth 65536 in
theorem w_t9 : (((((((((words1.drop 24).drop 24).drop 24).drop 24).drop 24).drop 24).drop 24).drop 24).take 24).all (fun c => isCode c || c.before args0 about1) = true := by decide +kernel
set_option maxRecDepth 65536 in
theorem w_t10 : ((((((((((words1.drop 24).drop 24).drop 24).drop 24).drop 24).drop 24).drop 24).drop 24).drop 24).take 24).all (fun c => isCode c || c.before args0 about1) = true := by decide +kernel
set_option maxRecDepth 65536 in
theorem w_t11 : (((((((((((words1.drop 24).drop 24).drop 24).drop 24).drop 24).drop 24).drop 24).drop 24).drop 24).drop 24).take 24).all (fun c => isCode c || c.before args0 about1) = true := by decide +kernel
set_option maxRecDepth 65536 in
theorem w_t12 : ((((((((((((words1.drop 24).drop 24).drop 24).drop 24).drop 24).drop 24).drop 24).drop 24).drop 24).drop 24).drop 24).take 24).all (fun c => isCode c || c.before args0 about1) = true := by decide +kernel
set_option maxRecDepth 65536 in
theorem w_t13 : (((((((((((((words1.drop 24).drop 24).drop 24).drop 24).drop 24).drop 24).drop 24).drop 24).drop 24).drop 24).drop 24).drop 24).take 24).all (fun c => isCode c || c.before args0 about1) = true := by decide +kernel
set_option maxRecDepth 65536 in
theorem w_t14 : ((((((((((((((words1.drop 24).drop 24).drop 24).drop 24).drop 24).drop 24).drop 24).drop 24).drop 24).drop 24).drop 24).drop 24).drop 24).take 24).all (fun c => isCode c || c.before args0 about1) = true := by decide +kernel
set_option maxRecDepth 65536 in
theorem w_t15 : (((((((((((((((words1.drop 24).drop 24).drop 24).drop 24).drop 24).drop 24).drop 24).drop 24).drop 24).drop 24).drop 24).drop 24).drop 24).drop 24).take 24).all (fun c => isCode c || c.before args0 about1) = true := by decide +kernel
set_option maxRecDepth 65536 in
theorem w_t16 : (((((((((((((((words1.drop 24).drop 24).drop 24).drop 24).drop 24).drop 24).drop 24).drop 24).drop 24).drop 24).drop 24).drop 24).drop 24).drop 24).drop 24).all (fun c => isCode c || c.before args0 about1) = true := by decide +kernel
theorem w_tables : (allAtoms (Jvm.Cond.code x code maxLocals ret :: tables_1)).before args0 about1 = true := by
  rw [allAtoms_all]
  show words1.all (fun c => c.before args0 about1) = true
  refine all_split ?_ w_codes
  rw [← List.take_append_drop 24 words1, List.all_append, w_t1, ← List.take_append_drop 24 (words1.drop 24), List.all_append, w_t2, ← List.take_append_drop 24 ((words1.drop 24).drop 24), List.all_append, w_t3, ← List.take_append_drop 24 (((words1.drop 24).drop 24).drop 24), List.all_append, w_t4, ← List.take_append_drop 24 ((((words1.drop 24).drop 24).drop 24).drop 24), List.all_append, w_t5, ← List.take_append_drop 24 (((((words1.drop 24).drop 24).drop 24).drop 24).drop 24), List.all_append, w_t6, ← List.take_append_drop 24 ((((((words1.drop 24).drop 24).drop 24).drop 24).drop 24).drop 24), List.all_append, w_t7, ← List.take_append_drop 24 (((((((words1.drop 24).drop 24).drop 24).drop 24).drop 24).drop 24).drop 24), List.all_append, w_t8, ← List.take_append_drop 24 ((((((((words1.drop 24).drop 24).drop 24).drop 24).drop 24).drop 24).drop 24).drop 24), List.all_append, w_t9, ← List.take_append_drop 24 (((((((((words1.drop 24).drop 24).drop 24).drop 24).drop 24).drop 24).drop 24).drop 24).drop 24), List.all_append, w_t10, ← List.take_append_drop 24 ((((((((((words1.drop 24).drop 24).drop 24).drop 24).drop 24).drop 24).drop 24).drop 24).drop 24).drop 24), List.all_append, w_t11, ← List.take_append_drop 24 (((((((((((words1.drop 24).drop 24).drop 24).drop 24).drop 24).drop 24).drop 24).drop 24).drop 24).drop 24).drop 24), List.all_append, w_t12, ← List.take_append_drop 24 ((((((((((((words1.drop 24).drop 24).drop 24).drop 24).drop 24).drop 24).drop 24).drop 24).drop 24).drop 24).drop 24).drop 24), List.all_append, w_t13, ← List.take_append_drop 24 (((((((((((((words1.drop 24).drop 24).drop 24).drop 24).drop 24).drop 24).drop 24).drop 24).drop 24).drop 24).drop 24).drop 24).drop 24), List.all_append, w_t14, ← List.take_append_drop 24 ((((((((((((((words1.drop 24).drop 24).drop 24).drop 24).drop 24).drop 24).drop 24).drop 24).drop 24).drop 24).drop 24).drop 24).drop 24).drop 24), List.all_append, w_t15, w_t16]
  rfl
set_option maxRecDepth 65536 in
theorem w_rest : rest_1_c.before args0 about1 = true := by decide +kernel
set_option maxRecDepth 65536 in
theorem w_case : (Jvm.Cond.and given_1 narrow_1).before args0 about1 = true := by decide +kernel
theorem w_applies : (headSpec (Jvm.Cond.code x code maxLocals ret :: tables_1) room_1).applies x e0.platform about1 = true :=
  (Spec.applies_iff w_frames).mpr ⟨w_running, w_runnable, w_alone, w_named, w_hears, w_ripe, w_room, w_tables⟩
theorem atStart : AtStart classFile x code maxLocals ret World_1 tables_1 room_1 Calls_1 rest_1 Pre_1 launch0 p0 e0 about1 theMethod args0 below0 :=
  ⟨lists_1, trivial, launch0.admits_env _ _ _, launch0.least_env, fairChoices_fair.cas, fairChoices_fair.clock, w_frames, w_args, w_heap, w_applies, ⟨⟨38, k38, 4, by decide +kernel, rfl, rfl, _, rfl, rfl⟩, trivial⟩, w_rest, w_case⟩
end start1
theorem witness_1 : WitnessClaimed_1 := ⟨start1.p0, start1.e0, start1.about1, start1.theMethod, start1.args0, start1.below0, start1.atStart⟩
end Jvm.Pilot.@@N@@
