import JvmDerived
import JvmDerived.Pilot.@@N@@Statement
import JvmDerived.Pilot.@@N@@Code
set_option linter.unusedVariables false
set_option linter.unusedSimpArgs false
namespace Jvm.RoadKit
open Sem ClassFile Op Lib Jvm.Stand Jvm.Free Jvm.LawKit
section New
variable {p : Program} {l : Launch} {e : Env} {R : Room} {s : State} {m : MethodId} {args : Array Value} {below : List Frame} {meth : Method} {c : Code} {T : State} {locs : List Loc} {cells slots : Nat}
theorem retI (X : Stand p l e R s m args below meth c T locs cells slots) (hx : p.tables.exec = Jvm.exec) {pc : Nat} {Ls : Array Slot} {z : Int32} {rest : List Value} (hret : meth.sig.returnType = some .int) (hd : decode c.code pc = .ok (.ireturn, 1)) {fs : List Frame}
    (hl : ∀ (f : JFrame) (acts : List Action), f.method = m → f.locked = none → f.entered = [] → (doReturn e (T.setTop f) acts (some (.int z))).1 = T.setFrames fs) : Steps p.tables e below (T.setTop (mkF m pc Ls (.int z :: rest))) (T.setFrames fs) :=
  retOut X hx hret rfl (Or.inl ⟨rfl, Or.inl rfl, z, rfl⟩) hd hl
theorem retL (X : Stand p l e R s m args below meth c T locs cells slots) (hx : p.tables.exec = Jvm.exec) {pc : Nat} {Ls : Array Slot} {z : Int64} {rest : List Value} (hret : meth.sig.returnType = some .long) (hd : decode c.code pc = .ok (.lreturn, 1)) {fs : List Frame}
    (hl : ∀ (f : JFrame) (acts : List Action), f.method = m → f.locked = none → f.entered = [] → (doReturn e (T.setTop f) acts (some (.long z))).1 = T.setFrames fs) : Steps p.tables e below (T.setTop (mkF m pc Ls (.long z :: rest))) (T.setFrames fs) :=
  retOut X hx hret rfl (Or.inr (Or.inl ⟨rfl, rfl, z, rfl⟩)) hd hl
theorem retA (X : Stand p l e R s m args below meth c T locs cells slots) (hx : p.tables.exec = Jvm.exec) {pc : Nat} {Ls : Array Slot} {t : FieldType} {w : Value} {rest : List Value} (hret : meth.sig.returnType = some t) (ht : t.isReference = true) (hw : w.isRef = true) (hn : narrow t w = w) (hd : decode c.code pc = .ok (.areturn, 1)) {fs : List Frame}
    (hl : ∀ (f : JFrame) (acts : List Action), f.method = m → f.locked = none → f.entered = [] → (doReturn e (T.setTop f) acts (some w)).1 = T.setFrames fs) : Steps p.tables e below (T.setTop (mkF m pc Ls (w :: rest))) (T.setFrames fs) :=
  retOut X hx hret hn (Or.inr (Or.inr (Or.inr (Or.inr ⟨rfl, ht, hw⟩)))) hd hl
end New
theorem own_fld {args : Array Value} {s : State} {t : Term} {C n d : String} {k : Int32} {w : Addr} (h : (Cond.eq (Term.field t C n d) (Term.int k)).value args s none s [] = some true) (ev : t.eval args s none [] s = some (.ref w)) : Fld s s.heap w C n d (.int k) := by
  have e1 : (Term.field t C n d).eval args s none [] s = s.fieldOf? w C n d := fld_at ev
  have e2 : (Term.int k).eval args s none [] s = some (.int k) := rfl
  obtain ⟨x, y, ex, ey, k1, k2⟩ := cmp_v (Or.inl h)
  cases e2.symm.trans ey
  obtain ⟨z, rfl⟩ := k2
  have q : z = k := gotT (P := z = k) (Cond.eq_ints ex e2) h
  subst q
  exact Fld.start (e1.symm.trans ex)
end Jvm.RoadKit
namespace Jvm.Pilot.@@N@@
open Jvm Jvm.ClassFile Sem Op Lib Jvm.Free Jvm.Stand Jvm.LawKit Jvm.RoadKit Bundle Jvm.Pilot.@@N@@.Jvm.D
def own_QP (r : Option Value) (n0 : Nat) (h0 : Heap) (v : Option Value) (h : Heap) (L : List Loc) : Prop := v = r ∧ Fr n0 L ∧ h = h0
def own_Q1 (n0 : Nat) (v : Option Value) (h : Heap) (L : List Loc) : Prop := v = some (.int (1 : Int32)) ∧ Fr n0 L

theorem d1_0 : decode method_2_code 0 = .ok (.iload_n 1, 1) := by decide +kernel
theorem d1_1 : decode method_2_code 1 = .ok (.ldc 7, 2) := by decide +kernel
theorem d1_3 : decode method_2_code 3 = .ok (.iand, 1) := by decide +kernel
theorem d1_4 : decode method_2_code 4 = .ok (.istore_n 2, 1) := by decide +kernel
theorem d1_5 : decode method_2_code 5 = .ok (.iload_n 0, 1) := by decide +kernel
theorem d1_6 : decode method_2_code 6 = .ok (.ifCond .eq 17, 3) := by decide +kernel
theorem d1_9 : decode method_2_code 9 = .ok (.iload_n 2, 1) := by decide +kernel
theorem d1_10 : decode method_2_code 10 = .ok (.iconst 3, 1) := by decide +kernel
theorem d1_11 : decode method_2_code 11 = .ok (.irem, 1) := by decide +kernel
theorem d1_12 : decode method_2_code 12 = .ok (.istore_n 3, 1) := by decide +kernel
theorem d1_13 : decode method_2_code 13 = .ok (.iload_n 3, 1) := by decide +kernel
theorem d1_14 : decode method_2_code 14 = .ok (.iconst 2, 1) := by decide +kernel
theorem d1_15 : decode method_2_code 15 = .ok (.if_icmp .ne 6, 3) := by decide +kernel
theorem d1_18 : decode method_2_code 18 = .ok (.bipush 9, 2) := by decide +kernel
theorem d1_20 : decode method_2_code 20 = .ok (.ireturn, 1) := by decide +kernel
theorem d1_21 : decode method_2_code 21 = .ok (.iload_n 3, 1) := by decide +kernel
theorem d1_22 : decode method_2_code 22 = .ok (.ireturn, 1) := by decide +kernel
theorem d1_23 : decode method_2_code 23 = .ok (.iconst 2, 1) := by decide +kernel
theorem d1_24 : decode method_2_code 24 = .ok (.iload_n 2, 1) := by decide +kernel
theorem d1_25 : decode method_2_code 25 = .ok (.bipush 7, 2) := by decide +kernel
theorem d1_27 : decode method_2_code 27 = .ok (.irem, 1) := by decide +kernel
theorem d1_28 : decode method_2_code 28 = .ok (.iadd, 1) := by decide +kernel
theorem d1_29 : decode method_2_code 29 = .ok (.ireturn, 1) := by decide +kernel
theorem d2_0 : decode method_4_code 0 = .ok (.iload_n 0, 1) := by decide +kernel
theorem d2_1 : decode method_4_code 1 = .ok (.iconst 2, 1) := by decide +kernel
theorem d2_2 : decode method_4_code 2 = .ok (.if_icmp .eq 8, 3) := by decide +kernel
theorem d2_5 : decode method_4_code 5 = .ok (.iload_n 0, 1) := by decide +kernel
theorem d2_6 : decode method_4_code 6 = .ok (.iconst 3, 1) := by decide +kernel
theorem d2_7 : decode method_4_code 7 = .ok (.if_icmp .ne 6, 3) := by decide +kernel
theorem d2_10 : decode method_4_code 10 = .ok (.bipush 108, 2) := by decide +kernel
theorem d2_12 : decode method_4_code 12 = .ok (.ireturn, 1) := by decide +kernel
theorem d2_13 : decode method_4_code 13 = .ok (.iload_n 0, 1) := by decide +kernel
theorem d2_14 : decode method_4_code 14 = .ok (.iconst 5, 1) := by decide +kernel
theorem d2_15 : decode method_4_code 15 = .ok (.if_icmp .eq 9, 3) := by decide +kernel
theorem d2_18 : decode method_4_code 18 = .ok (.iload_n 0, 1) := by decide +kernel
theorem d2_19 : decode method_4_code 19 = .ok (.bipush 6, 2) := by decide +kernel
theorem d2_21 : decode method_4_code 21 = .ok (.if_icmp .ne 6, 3) := by decide +kernel
theorem d2_24 : decode method_4_code 24 = .ok (.bipush 12, 2) := by decide +kernel
theorem d2_26 : decode method_4_code 26 = .ok (.ireturn, 1) := by decide +kernel
theorem d2_27 : decode method_4_code 27 = .ok (.iload_n 0, 1) := by decide +kernel
theorem d2_28 : decode method_4_code 28 = .ok (.bipush 8, 2) := by decide +kernel
theorem d2_30 : decode method_4_code 30 = .ok (.if_icmp .ne 7, 3) := by decide +kernel
theorem d2_33 : decode method_4_code 33 = .ok (.sipush 180, 3) := by decide +kernel
theorem d2_36 : decode method_4_code 36 = .ok (.ireturn, 1) := by decide +kernel
theorem d2_37 : decode method_4_code 37 = .ok (.iload_n 0, 1) := by decide +kernel
theorem d2_38 : decode method_4_code 38 = .ok (.bipush 9, 2) := by decide +kernel
theorem d2_40 : decode method_4_code 40 = .ok (.if_icmp .ne 7, 3) := by decide +kernel
theorem d2_43 : decode method_4_code 43 = .ok (.sipush 512, 3) := by decide +kernel
theorem d2_46 : decode method_4_code 46 = .ok (.ireturn, 1) := by decide +kernel
theorem d2_47 : decode method_4_code 47 = .ok (.iconst 0, 1) := by decide +kernel
theorem d2_48 : decode method_4_code 48 = .ok (.ireturn, 1) := by decide +kernel
theorem d3_0 : decode method_3_code 0 = .ok (.iload_n 0, 1) := by decide +kernel
theorem d3_1 : decode method_3_code 1 = .ok (.ifCond .ne 7, 3) := by decide +kernel
theorem d3_4 : decode method_3_code 4 = .ok (.getstatic 8, 3) := by decide +kernel
theorem d3_7 : decode method_3_code 7 = .ok (.areturn, 1) := by decide +kernel
theorem d3_8 : decode method_3_code 8 = .ok (.iload_n 0, 1) := by decide +kernel
theorem d3_9 : decode method_3_code 9 = .ok (.iconst 1, 1) := by decide +kernel
theorem d3_10 : decode method_3_code 10 = .ok (.if_icmp .ne 7, 3) := by decide +kernel
theorem d3_13 : decode method_3_code 13 = .ok (.getstatic 14, 3) := by decide +kernel
theorem d3_16 : decode method_3_code 16 = .ok (.areturn, 1) := by decide +kernel
theorem d3_17 : decode method_3_code 17 = .ok (.iload_n 0, 1) := by decide +kernel
theorem d3_18 : decode method_3_code 18 = .ok (.iconst 2, 1) := by decide +kernel
theorem d3_19 : decode method_3_code 19 = .ok (.if_icmp .ne 7, 3) := by decide +kernel
theorem d3_22 : decode method_3_code 22 = .ok (.getstatic 17, 3) := by decide +kernel
theorem d3_25 : decode method_3_code 25 = .ok (.areturn, 1) := by decide +kernel
theorem d3_26 : decode method_3_code 26 = .ok (.iload_n 0, 1) := by decide +kernel
theorem d3_27 : decode method_3_code 27 = .ok (.iconst 3, 1) := by decide +kernel
theorem d3_28 : decode method_3_code 28 = .ok (.if_icmp .ne 7, 3) := by decide +kernel
theorem d3_31 : decode method_3_code 31 = .ok (.getstatic 20, 3) := by decide +kernel
theorem d3_34 : decode method_3_code 34 = .ok (.areturn, 1) := by decide +kernel
theorem d3_35 : decode method_3_code 35 = .ok (.iload_n 0, 1) := by decide +kernel
theorem d3_36 : decode method_3_code 36 = .ok (.iconst 4, 1) := by decide +kernel
theorem d3_37 : decode method_3_code 37 = .ok (.if_icmp .ne 7, 3) := by decide +kernel
theorem d3_40 : decode method_3_code 40 = .ok (.getstatic 23, 3) := by decide +kernel
theorem d3_43 : decode method_3_code 43 = .ok (.areturn, 1) := by decide +kernel
theorem d3_44 : decode method_3_code 44 = .ok (.iload_n 0, 1) := by decide +kernel
theorem d3_45 : decode method_3_code 45 = .ok (.iconst 5, 1) := by decide +kernel
theorem d3_46 : decode method_3_code 46 = .ok (.if_icmp .ne 7, 3) := by decide +kernel
theorem d3_49 : decode method_3_code 49 = .ok (.getstatic 26, 3) := by decide +kernel
theorem d3_52 : decode method_3_code 52 = .ok (.areturn, 1) := by decide +kernel
theorem d3_53 : decode method_3_code 53 = .ok (.iload_n 0, 1) := by decide +kernel
theorem d3_54 : decode method_3_code 54 = .ok (.bipush 6, 2) := by decide +kernel
theorem d3_56 : decode method_3_code 56 = .ok (.if_icmp .ne 7, 3) := by decide +kernel
theorem d3_59 : decode method_3_code 59 = .ok (.getstatic 29, 3) := by decide +kernel
theorem d3_62 : decode method_3_code 62 = .ok (.areturn, 1) := by decide +kernel
theorem d3_63 : decode method_3_code 63 = .ok (.iload_n 0, 1) := by decide +kernel
theorem d3_64 : decode method_3_code 64 = .ok (.bipush 7, 2) := by decide +kernel
theorem d3_66 : decode method_3_code 66 = .ok (.if_icmp .ne 7, 3) := by decide +kernel
theorem d3_69 : decode method_3_code 69 = .ok (.getstatic 32, 3) := by decide +kernel
theorem d3_72 : decode method_3_code 72 = .ok (.areturn, 1) := by decide +kernel
theorem d3_73 : decode method_3_code 73 = .ok (.iload_n 0, 1) := by decide +kernel
theorem d3_74 : decode method_3_code 74 = .ok (.bipush 8, 2) := by decide +kernel
theorem d3_76 : decode method_3_code 76 = .ok (.if_icmp .ne 7, 3) := by decide +kernel
theorem d3_79 : decode method_3_code 79 = .ok (.getstatic 35, 3) := by decide +kernel
theorem d3_82 : decode method_3_code 82 = .ok (.areturn, 1) := by decide +kernel
theorem d3_83 : decode method_3_code 83 = .ok (.getstatic 38, 3) := by decide +kernel
theorem d3_86 : decode method_3_code 86 = .ok (.areturn, 1) := by decide +kernel
theorem d4_0 : decode prog_26_method_6_code 0 = .ok (.aload_n 0, 1) := by decide +kernel
theorem d4_1 : decode prog_26_method_6_code 1 = .ok (.getfield 60, 3) := by decide +kernel
theorem d4_4 : decode prog_26_method_6_code 4 = .ok (.ifCond .eq 15, 3) := by decide +kernel
theorem d4_7 : decode prog_26_method_6_code 7 = .ok (.aload_n 1, 1) := by decide +kernel
theorem d4_8 : decode prog_26_method_6_code 8 = .ok (.getfield 60, 3) := by decide +kernel
theorem d4_11 : decode prog_26_method_6_code 11 = .ok (.ifCond .eq 8, 3) := by decide +kernel
theorem d4_14 : decode prog_26_method_6_code 14 = .ok (.iconst 0, 1) := by decide +kernel
theorem d4_15 : decode prog_26_method_6_code 15 = .ok (.istore_n 2, 1) := by decide +kernel
theorem d4_16 : decode prog_26_method_6_code 16 = .ok (.goto 116, 3) := by decide +kernel
theorem d4_19 : decode prog_26_method_6_code 19 = .ok (.aload_n 0, 1) := by decide +kernel
theorem d4_20 : decode prog_26_method_6_code 20 = .ok (.getfield 76, 3) := by decide +kernel
theorem d4_23 : decode prog_26_method_6_code 23 = .ok (.ifCond .ne 10, 3) := by decide +kernel
theorem d4_26 : decode prog_26_method_6_code 26 = .ok (.aload_n 1, 1) := by decide +kernel
theorem d4_27 : decode prog_26_method_6_code 27 = .ok (.getfield 76, 3) := by decide +kernel
theorem d4_30 : decode prog_26_method_6_code 30 = .ok (.ifCond .eq 26, 3) := by decide +kernel
theorem d4_33 : decode prog_26_method_6_code 33 = .ok (.aload_n 0, 1) := by decide +kernel
theorem d4_34 : decode prog_26_method_6_code 34 = .ok (.getfield 60, 3) := by decide +kernel
theorem d4_37 : decode prog_26_method_6_code 37 = .ok (.ifCond .ne 14, 3) := by decide +kernel
theorem d4_40 : decode prog_26_method_6_code 40 = .ok (.aload_n 1, 1) := by decide +kernel
theorem d4_41 : decode prog_26_method_6_code 41 = .ok (.getfield 60, 3) := by decide +kernel
theorem d4_44 : decode prog_26_method_6_code 44 = .ok (.ifCond .ne 7, 3) := by decide +kernel
theorem d4_47 : decode prog_26_method_6_code 47 = .ok (.iconst 1, 1) := by decide +kernel
theorem d4_48 : decode prog_26_method_6_code 48 = .ok (.goto 4, 3) := by decide +kernel
theorem d4_51 : decode prog_26_method_6_code 51 = .ok (.iconst 0, 1) := by decide +kernel
theorem d4_52 : decode prog_26_method_6_code 52 = .ok (.istore_n 2, 1) := by decide +kernel
theorem d4_53 : decode prog_26_method_6_code 53 = .ok (.goto 79, 3) := by decide +kernel
theorem d4_56 : decode prog_26_method_6_code 56 = .ok (.aload_n 0, 1) := by decide +kernel
theorem d4_57 : decode prog_26_method_6_code 57 = .ok (.getfield 73, 3) := by decide +kernel
theorem d4_60 : decode prog_26_method_6_code 60 = .ok (.ifCond .eq 26, 3) := by decide +kernel
theorem d4_63 : decode prog_26_method_6_code 63 = .ok (.aload_n 1, 1) := by decide +kernel
theorem d4_64 : decode prog_26_method_6_code 64 = .ok (.getfield 70, 3) := by decide +kernel
theorem d4_67 : decode prog_26_method_6_code 67 = .ok (.ifCond .eq 14, 3) := by decide +kernel
theorem d4_70 : decode prog_26_method_6_code 70 = .ok (.aload_n 1, 1) := by decide +kernel
theorem d4_71 : decode prog_26_method_6_code 71 = .ok (.getfield 73, 3) := by decide +kernel
theorem d4_74 : decode prog_26_method_6_code 74 = .ok (.ifCond .ne 7, 3) := by decide +kernel
theorem d4_77 : decode prog_26_method_6_code 77 = .ok (.iconst 1, 1) := by decide +kernel
theorem d4_78 : decode prog_26_method_6_code 78 = .ok (.goto 4, 3) := by decide +kernel
theorem d4_81 : decode prog_26_method_6_code 81 = .ok (.iconst 0, 1) := by decide +kernel
theorem d4_82 : decode prog_26_method_6_code 82 = .ok (.istore_n 2, 1) := by decide +kernel
theorem d4_83 : decode prog_26_method_6_code 83 = .ok (.goto 49, 3) := by decide +kernel
theorem d4_86 : decode prog_26_method_6_code 86 = .ok (.aload_n 1, 1) := by decide +kernel
theorem d4_87 : decode prog_26_method_6_code 87 = .ok (.getfield 73, 3) := by decide +kernel
theorem d4_90 : decode prog_26_method_6_code 90 = .ok (.ifCond .eq 8, 3) := by decide +kernel
theorem d4_93 : decode prog_26_method_6_code 93 = .ok (.iconst 0, 1) := by decide +kernel
theorem d4_94 : decode prog_26_method_6_code 94 = .ok (.istore_n 2, 1) := by decide +kernel
theorem d4_95 : decode prog_26_method_6_code 95 = .ok (.goto 37, 3) := by decide +kernel
theorem d4_98 : decode prog_26_method_6_code 98 = .ok (.aload_n 0, 1) := by decide +kernel
theorem d4_99 : decode prog_26_method_6_code 99 = .ok (.getfield 67, 3) := by decide +kernel
theorem d4_102 : decode prog_26_method_6_code 102 = .ok (.ifCond .eq 28, 3) := by decide +kernel
theorem d4_105 : decode prog_26_method_6_code 105 = .ok (.aload_n 1, 1) := by decide +kernel
theorem d4_106 : decode prog_26_method_6_code 106 = .ok (.getfield 67, 3) := by decide +kernel
theorem d4_109 : decode prog_26_method_6_code 109 = .ok (.ifCond .eq 21, 3) := by decide +kernel
theorem d4_112 : decode prog_26_method_6_code 112 = .ok (.aload_n 0, 1) := by decide +kernel
theorem d4_113 : decode prog_26_method_6_code 113 = .ok (.getfield 64, 3) := by decide +kernel
theorem d4_116 : decode prog_26_method_6_code 116 = .ok (.ifCond .eq 10, 3) := by decide +kernel
theorem d4_119 : decode prog_26_method_6_code 119 = .ok (.aload_n 1, 1) := by decide +kernel
theorem d4_120 : decode prog_26_method_6_code 120 = .ok (.getfield 64, 3) := by decide +kernel
theorem d4_123 : decode prog_26_method_6_code 123 = .ok (.ifCond .ne 7, 3) := by decide +kernel
theorem d4_126 : decode prog_26_method_6_code 126 = .ok (.iconst 1, 1) := by decide +kernel
theorem d4_127 : decode prog_26_method_6_code 127 = .ok (.goto 4, 3) := by decide +kernel
theorem d4_130 : decode prog_26_method_6_code 130 = .ok (.iconst 0, 1) := by decide +kernel
theorem d4_131 : decode prog_26_method_6_code 131 = .ok (.istore_n 2, 1) := by decide +kernel
theorem d4_132 : decode prog_26_method_6_code 132 = .ok (.iload_n 2, 1) := by decide +kernel
theorem d4_133 : decode prog_26_method_6_code 133 = .ok (.ireturn, 1) := by decide +kernel
theorem pd_0 : parseMethodDescriptor "(II)I" = some ⟨[.int, .int], some .int⟩ := by decide +kernel
theorem pd_1 : parseMethodDescriptor "(I)I" = some ⟨[.int], some .int⟩ := by decide +kernel
theorem pd_2 : parseMethodDescriptor "(I)Lcom/example/key_warden/keywarden/engine/LockMode;" = some ⟨[.int], some (.object "com/example/key_warden/keywarden/engine/LockMode")⟩ := by decide +kernel
theorem pd_3 : parseMethodDescriptor "(Lcom/example/key_warden/keywarden/engine/LockMode;)Z" = some ⟨[(.object "com/example/key_warden/keywarden/engine/LockMode")], some .boolean⟩ := by decide +kernel
theorem pn_4 : plainName "com/example/key_warden/keywarden/engine/LockModeConflictsWithPinLaw" = true := by first | (simp [plainName, overriddenIn]; done) | decide +kernel
theorem ef_0_III (m : MethodId) (x0 : Int32) (x1 : Int32) (x2 : Int32) : entryFrame m #[(.int x0), (.int x1), (.int x2)] maxLocals = mkF m 0 #[.val (.int x0), .val (.int x1), .val (.int x2), .unset, .unset, .unset, .unset] [] := by first | (simp [entryFrame, mkF, argsToLocals, Value.category, maxLocals]; done) | rfl
theorem ef_1_II (m : MethodId) (x0 : Int32) (x1 : Int32) : entryFrame m #[(.int x0), (.int x1)] 4 = mkF m 0 #[.val (.int x0), .val (.int x1), .unset, .unset] [] := by first | (simp [entryFrame, mkF, argsToLocals, Value.category]; done) | rfl
theorem ef_2_I (m : MethodId) (x0 : Int32) : entryFrame m #[(.int x0)] 1 = mkF m 0 #[.val (.int x0)] [] := by first | (simp [entryFrame, mkF, argsToLocals, Value.category]; done) | rfl
theorem ef_3_I (m : MethodId) (x0 : Int32) : entryFrame m #[(.int x0)] 1 = mkF m 0 #[.val (.int x0)] [] := by first | (simp [entryFrame, mkF, argsToLocals, Value.category]; done) | rfl
theorem pn_9 : plainName "com/example/key_warden/keywarden/engine/LockMode" = true := by first | (simp [plainName, overriddenIn]; done) | decide +kernel
theorem ef_4_RR (m : MethodId) (x0 : Addr) (x1 : Addr) : entryFrame m #[(.ref x0), (.ref x1)] 3 = mkF m 0 #[.val (.ref x0), .val (.ref x1), .unset] [] := by first | (simp [entryFrame, mkF, argsToLocals, Value.category]; done) | rfl
theorem fo_0 : ((2 : Int32) + (0 : Int32)) = (2 : Int32) := by decide +kernel
theorem fo_1 : ((2 : Int32) + (1 : Int32)) = (3 : Int32) := by decide +kernel
theorem fo_2 : ((2 : Int32) + (2 : Int32)) = (4 : Int32) := by decide +kernel
theorem fo_3 : ((2 : Int32) + (3 : Int32)) = (5 : Int32) := by decide +kernel
theorem fo_4 : ((2 : Int32) + (4 : Int32)) = (6 : Int32) := by decide +kernel
theorem fo_5 : ((2 : Int32) + (5 : Int32)) = (7 : Int32) := by decide +kernel
theorem fo_6 : ((2 : Int32) + (6 : Int32)) = (8 : Int32) := by decide +kernel
def own_QK (r : Option Value) (n0 : Nat) (h0 : Heap) (v : Option Value) (h : Heap) (L : List Loc) : Prop := v = r ∧ Fr n0 L ∧ Keep h0 h []
set_option maxRecDepth 65536 in
set_option maxHeartbeats 40000000 in
theorem law_0 (l : Launch) (Z : State) (a0 : Array Value) (hw : ∀ d ∈ tables_1, d.before a0 Z = true) (ws : List Jvm.Cond) (p1 : Int32) (p2 : Int32) (p3 : Int32) (p4 : Int32) (p5 : Int32) (p6 : Int32) (p7 : Int32) (w_i : Addr) (w_j : Addr) (h0 : Heap) (n0 : Nat) (O0 : Old Z n0 h0) (P1 : (p3 &&& (1 : Int32)) = p4) (P2 : ∀ (h0 : Heap), Old Z n0 h0 → MetFree l (⟨"com/example/key_warden/keywarden/engine/LockModeConflictsWithPinLaw", "pick", "(II)I"⟩ : MethodName) (head1 [Jvm.Cond.code (⟨"com/example/key_warden/keywarden/engine/LockModeConflictsWithPinLaw", "pick", "(II)I"⟩ : MethodName) method_2_code 4 (some .int)] ({ frames := 0, cells := 0, slots := 0, locals := 0 } : Room)) (fun a U => a = #[(.int p4), (.int p1)] ∧ Z.Warmed39 U.vm ∧ U.heap = h0) (fun _ _ _ _ _ => True) (fun _ U o U' => ∃ v L, o = .returned v ∧ own_QP (some (.int p5)) n0 h0 v U'.heap L ∧ FrameEnd U o U' L ({ frames := 0, cells := 0, slots := 0, locals := 0 } : Room).cells ({ frames := 0, cells := 0, slots := 0, locals := 0 } : Room).slots)) (P3 : ∀ (h0 : Heap), Old Z n0 h0 → MetFree l (⟨"com/example/key_warden/keywarden/engine/LockModeConflictsWithPinLaw", "pick", "(II)I"⟩ : MethodName) (head1 [Jvm.Cond.code (⟨"com/example/key_warden/keywarden/engine/LockModeConflictsWithPinLaw", "pick", "(II)I"⟩ : MethodName) method_2_code 4 (some .int)] ({ frames := 0, cells := 0, slots := 0, locals := 0 } : Room)) (fun a U => a = #[(.int p4), (.int p2)] ∧ Z.Warmed39 U.vm ∧ U.heap = h0) (fun _ _ _ _ _ => True) (fun _ U o U' => ∃ v L, o = .returned v ∧ own_QP (some (.int p6)) n0 h0 v U'.heap L ∧ FrameEnd U o U' L ({ frames := 0, cells := 0, slots := 0, locals := 0 } : Room).cells ({ frames := 0, cells := 0, slots := 0, locals := 0 } : Room).slots)) (P4 : ∀ (h0 : Heap), Old Z n0 h0 → MetFree l (⟨"com/example/key_warden/keywarden/engine/LockModeConflictsWithPinLaw", "row", "(I)I"⟩ : MethodName) (head1 [Jvm.Cond.code (⟨"com/example/key_warden/keywarden/engine/LockModeConflictsWithPinLaw", "row", "(I)I"⟩ : MethodName) method_4_code 1 (some .int)] ({ frames := 0, cells := 0, slots := 0, locals := 0 } : Room)) (fun a U => a = #[(.int p5)] ∧ Z.Warmed39 U.vm ∧ U.heap = h0) (fun _ _ _ _ _ => True) (fun _ U o U' => ∃ v L, o = .returned v ∧ own_QP (some (.int p7)) n0 h0 v U'.heap L ∧ FrameEnd U o U' L ({ frames := 0, cells := 0, slots := 0, locals := 0 } : Room).cells ({ frames := 0, cells := 0, slots := 0, locals := 0 } : Room).slots)) (P5 : (((p7.toUInt32 >>> (p6 &&& 31).toUInt32).toInt32) &&& (1 : Int32)) = (0 : Int32)) (P6 : ∀ (h0 : Heap), Old Z n0 h0 → MetFree l (⟨"com/example/key_warden/keywarden/engine/LockModeConflictsWithPinLaw", "mode", "(I)Lcom/example/key_warden/keywarden/engine/LockMode;"⟩ : MethodName) (head1 [Jvm.Cond.code (⟨"com/example/key_warden/keywarden/engine/LockModeConflictsWithPinLaw", "mode", "(I)Lcom/example/key_warden/keywarden/engine/LockMode;"⟩ : MethodName) method_3_code 1 (some (.object "com/example/key_warden/keywarden/engine/LockMode"))] ({ frames := 0, cells := 0, slots := 0, locals := 0 } : Room)) (fun a U => a = #[(.int p5)] ∧ Z.Warmed39 U.vm ∧ U.heap = h0) (fun _ _ _ _ _ => True) (fun _ U o U' => ∃ v L, o = .returned v ∧ own_QP (some (.ref w_i)) n0 h0 v U'.heap L ∧ FrameEnd U o U' L ({ frames := 0, cells := 0, slots := 0, locals := 0 } : Room).cells ({ frames := 0, cells := 0, slots := 0, locals := 0 } : Room).slots)) (P7 : ∀ (h0 : Heap), Old Z n0 h0 → MetFree l (⟨"com/example/key_warden/keywarden/engine/LockModeConflictsWithPinLaw", "mode", "(I)Lcom/example/key_warden/keywarden/engine/LockMode;"⟩ : MethodName) (head1 [Jvm.Cond.code (⟨"com/example/key_warden/keywarden/engine/LockModeConflictsWithPinLaw", "mode", "(I)Lcom/example/key_warden/keywarden/engine/LockMode;"⟩ : MethodName) method_3_code 1 (some (.object "com/example/key_warden/keywarden/engine/LockMode"))] ({ frames := 0, cells := 0, slots := 0, locals := 0 } : Room)) (fun a U => a = #[(.int p6)] ∧ Z.Warmed39 U.vm ∧ U.heap = h0) (fun _ _ _ _ _ => True) (fun _ U o U' => ∃ v L, o = .returned v ∧ own_QP (some (.ref w_j)) n0 h0 v U'.heap L ∧ FrameEnd U o U' L ({ frames := 0, cells := 0, slots := 0, locals := 0 } : Room).cells ({ frames := 0, cells := 0, slots := 0, locals := 0 } : Room).slots)) (P8 : Exa Z Z.heap w_i "com/example/key_warden/keywarden/engine/LockMode") (P9 : ∀ (h0 : Heap), Old Z n0 h0 → MetFree l (⟨"com/example/key_warden/keywarden/engine/LockMode", "conflictsWith", "(Lcom/example/key_warden/keywarden/engine/LockMode;)Z"⟩ : MethodName) (head1 [Jvm.Cond.code (⟨"com/example/key_warden/keywarden/engine/LockMode", "conflictsWith", "(Lcom/example/key_warden/keywarden/engine/LockMode;)Z"⟩ : MethodName) prog_26_method_6_code 3 (some .boolean)] ({ frames := 0, cells := 0, slots := 0, locals := 0 } : Room)) (fun a U => a = #[(.ref w_i), (.ref w_j)] ∧ Z.Warmed39 U.vm ∧ U.heap = h0) (fun _ _ _ _ _ => True) (fun _ U o U' => ∃ v L, o = .returned v ∧ own_QP (some (.int (0 : Int32))) n0 h0 v U'.heap L ∧ FrameEnd U o U' L ({ frames := 0, cells := 0, slots := 0, locals := 0 } : Room).cells ({ frames := 0, cells := 0, slots := 0, locals := 0 } : Room).slots)) :
    MetFree l x (head1 (Jvm.Cond.code x code maxLocals ret :: ws) room_1) (fun a U => a = #[(.int p1), (.int p2), (.int p3)] ∧ Z.Warmed39 U.vm ∧ U.heap = h0) (fun _ _ _ _ _ => True) (fun _ U o U' => ∃ v L, o = .returned v ∧ own_Q1 n0 v U'.heap L ∧ FrameEnd U o U' L room_1.cells room_1.slots) := by
  refine MetFree.of_bodySF (plainFor_of_name pn_4) hisR ?_
  intro p e s m args below meth c s₁ Bd hml0 hP hK
  obtain ⟨rfl, hZ, hh⟩ := hP
  have hx := Bd.exec
  have hby := Bd.bytes
  have hml : c.maxLocals = 7 := hml0
  have hown : s.vm.findClass "com/example/key_warden/keywarden/engine/LockModeConflictsWithPinLaw" = some m.cls := findClass_of_methodNamed Bd.named
  have hnm := (name_of_methodNamed Bd.named Bd.method).1
  have X0 : Stand p l e room_1 s m #[(.int p1), (.int p2), (.int p3)] below meth c s₁ [] 0 0 := Stand.of_body Bd
  have e0 : s₁.heap = h0 := by rw [← hh, Bd.state]; rfl
  have N0 := Fr.nil n0
  have pre0 : ∀ t, Steps p.tables e below (s₁.setTop (mkF m 0 #[.val (.int p1), .val (.int p2), .val (.int p3), .unset, .unset, .unset, .unset] [])) t → Steps p.tables e below (s₁.setTop (entryFrame m #[(.int p1), (.int p2), (.int p3)] maxLocals)) t := fun t k => castTop (ef_0_III m p1 p2 p3) k
  obtain ⟨_, _, ⟨T1, L1, k1, n1⟩, -, X1, ⟨Lc1, hQ1, l1, y1, z1⟩, st1⟩ := Jvm.LawKit.callS X0 hx (y := (⟨"com/example/key_warden/keywarden/engine/LockModeConflictsWithPinLaw", "pick", "(II)I"⟩ : MethodName)) hown (mvT hZ (hw _ (List.mem_of_getElem? (i := 0) rfl))) (mvT hZ (hw _ (List.mem_of_getElem? (i := 1) rfl))) (mvT hZ (hw _ (List.mem_of_getElem? (i := 2) rfl))) (mvT hZ (hw _ (List.mem_of_getElem? (i := 3) rfl))) (by decide) (backOf (W := 0) (P2 h0 O0) hZ (hw _ (List.mem_of_getElem? (i := 3) rfl)) (hw _ (List.mem_of_getElem? (i := 2) rfl)) (by decide) (by decide)) (g := (mkF m 6 #[.val (.int p1), .val (.int p2), .val (.int p3), .val (.int p4), .unset, .unset, .unset] [(.int p1), (.int p4)])) rfl (by rw [hml]; rfl) (argsL := [(.int p4), (.int p1)]) (rest := []) (lenOf pd_0 rfl) rfl (by show 2 * 0 + _ ≤ _; exact Nat.le_of_eq rfl) (hb hby at_6) (fun _ _ => ⟨rfl, e0, (by decide : 0 + 0 ≤ _), (by decide : 0 + 0 ≤ _)⟩)
  dsimp only [Pt.U, Pt.locs, Pt.cells, Pt.slots] at X1 l1 y1 z1 st1 hQ1
  subst l1 y1 z1
  obtain ⟨rfl, N1q, e1⟩ := hQ1
  have N1 := Fr.app N0 N1q
  obtain ⟨_, _, ⟨T2, L2, k2, n2⟩, -, X2, ⟨Lc2, hQ2, l2, y2, z2⟩, st2⟩ := Jvm.LawKit.callS X1 hx (y := (⟨"com/example/key_warden/keywarden/engine/LockModeConflictsWithPinLaw", "pick", "(II)I"⟩ : MethodName)) hown (mvT hZ (hw _ (List.mem_of_getElem? (i := 0) rfl))) (mvT hZ (hw _ (List.mem_of_getElem? (i := 1) rfl))) (mvT hZ (hw _ (List.mem_of_getElem? (i := 2) rfl))) (mvT hZ (hw _ (List.mem_of_getElem? (i := 3) rfl))) (by decide) (backOf (W := 0) (P3 h0 O0) hZ (hw _ (List.mem_of_getElem? (i := 3) rfl)) (hw _ (List.mem_of_getElem? (i := 2) rfl)) (by decide) (by decide)) (g := (mkF m 13 #[.val (.int p1), .val (.int p2), .val (.int p3), .val (.int p4), .val (.int p5), .unset, .unset] [(.int p2), (.int p4)])) rfl (by rw [hml]; rfl) (argsL := [(.int p4), (.int p2)]) (rest := []) (lenOf pd_0 rfl) rfl (by show 2 * 0 + _ ≤ _; exact Nat.le_of_eq rfl) (hb hby at_13) (fun _ _ => ⟨rfl, e1, (by decide : 0 + 0 ≤ _), (by decide : 0 + 0 ≤ _)⟩)
  dsimp only [Pt.U, Pt.locs, Pt.cells, Pt.slots] at X2 l2 y2 z2 st2 hQ2
  subst l2 y2 z2
  obtain ⟨rfl, N2q, e2⟩ := hQ2
  have N2 := Fr.app N1 N2q
  obtain ⟨_, _, ⟨T3, L3, k3, n3⟩, -, X3, ⟨Lc3, hQ3, l3, y3, z3⟩, st3⟩ := Jvm.LawKit.callS X2 hx (y := (⟨"com/example/key_warden/keywarden/engine/LockModeConflictsWithPinLaw", "row", "(I)I"⟩ : MethodName)) hown (mvT hZ (hw _ (List.mem_of_getElem? (i := 5) rfl))) (mvT hZ (hw _ (List.mem_of_getElem? (i := 6) rfl))) (mvT hZ (hw _ (List.mem_of_getElem? (i := 2) rfl))) (mvT hZ (hw _ (List.mem_of_getElem? (i := 7) rfl))) (by decide) (backOf (W := 0) (P4 h0 O0) hZ (hw _ (List.mem_of_getElem? (i := 7) rfl)) (hw _ (List.mem_of_getElem? (i := 2) rfl)) (by decide) (by decide)) (g := (mkF m 20 #[.val (.int p1), .val (.int p2), .val (.int p3), .val (.int p4), .val (.int p5), .val (.int p6), .unset] [(.int p5)])) rfl (by rw [hml]; rfl) (argsL := [(.int p5)]) (rest := []) (lenOf pd_1 rfl) rfl (by show 2 * 0 + _ ≤ _; exact Nat.le_of_eq rfl) (hb hby at_20) (fun _ _ => ⟨rfl, e2, (by decide : 0 + 0 ≤ _), (by decide : 0 + 0 ≤ _)⟩)
  dsimp only [Pt.U, Pt.locs, Pt.cells, Pt.slots] at X3 l3 y3 z3 st3 hQ3
  subst l3 y3 z3
  obtain ⟨rfl, N3q, e3⟩ := hQ3
  have N3 := Fr.app N2 N3q
  obtain ⟨_, _, ⟨T4, L4, k4, n4⟩, -, X4, ⟨Lc4, hQ4, l4, y4, z4⟩, st4⟩ := Jvm.LawKit.callS X3 hx (y := (⟨"com/example/key_warden/keywarden/engine/LockModeConflictsWithPinLaw", "mode", "(I)Lcom/example/key_warden/keywarden/engine/LockMode;"⟩ : MethodName)) hown (mvT hZ (hw _ (List.mem_of_getElem? (i := 8) rfl))) (mvT hZ (hw _ (List.mem_of_getElem? (i := 9) rfl))) (mvT hZ (hw _ (List.mem_of_getElem? (i := 2) rfl))) (mvT hZ (hw _ (List.mem_of_getElem? (i := 10) rfl))) (by decide) (backOf (W := 0) (P6 h0 O0) hZ (hw _ (List.mem_of_getElem? (i := 10) rfl)) (hw _ (List.mem_of_getElem? (i := 2) rfl)) (by decide) (by decide)) (g := (mkF m 40 #[.val (.int p1), .val (.int p2), .val (.int p3), .val (.int p4), .val (.int p5), .val (.int p6), .val (.int (0 : Int32))] [(.int p5)])) rfl (by rw [hml]; rfl) (argsL := [(.int p5)]) (rest := []) (lenOf pd_2 rfl) rfl (by show 2 * 0 + _ ≤ _; exact Nat.le_of_eq rfl) (hb hby at_40) (fun _ _ => ⟨rfl, e3, (by decide : 0 + 0 ≤ _), (by decide : 0 + 0 ≤ _)⟩)
  dsimp only [Pt.U, Pt.locs, Pt.cells, Pt.slots] at X4 l4 y4 z4 st4 hQ4
  subst l4 y4 z4
  obtain ⟨rfl, N4q, e4⟩ := hQ4
  have N4 := Fr.app N3 N4q
  obtain ⟨_, _, ⟨T5, L5, k5, n5⟩, -, X5, ⟨Lc5, hQ5, l5, y5, z5⟩, st5⟩ := Jvm.LawKit.callS X4 hx (y := (⟨"com/example/key_warden/keywarden/engine/LockModeConflictsWithPinLaw", "mode", "(I)Lcom/example/key_warden/keywarden/engine/LockMode;"⟩ : MethodName)) hown (mvT hZ (hw _ (List.mem_of_getElem? (i := 8) rfl))) (mvT hZ (hw _ (List.mem_of_getElem? (i := 9) rfl))) (mvT hZ (hw _ (List.mem_of_getElem? (i := 2) rfl))) (mvT hZ (hw _ (List.mem_of_getElem? (i := 10) rfl))) (by decide) (backOf (W := 1) (P7 h0 O0) hZ (hw _ (List.mem_of_getElem? (i := 10) rfl)) (hw _ (List.mem_of_getElem? (i := 2) rfl)) (by decide) (by decide)) (g := (mkF m 45 #[.val (.int p1), .val (.int p2), .val (.int p3), .val (.int p4), .val (.int p5), .val (.int p6), .val (.int (0 : Int32))] [(.int p6), (.ref w_i)])) rfl (by rw [hml]; rfl) (argsL := [(.int p6)]) (rest := [(.ref w_i)]) (lenOf pd_2 rfl) rfl (by show 2 * 0 + _ ≤ _; exact Nat.le_of_eq rfl) (hb hby at_45) (fun _ _ => ⟨rfl, e4, (by decide : 0 + 0 ≤ _), (by decide : 0 + 0 ≤ _)⟩)
  dsimp only [Pt.U, Pt.locs, Pt.cells, Pt.slots] at X5 l5 y5 z5 st5 hQ5
  subst l5 y5 z5
  obtain ⟨rfl, N5q, e5⟩ := hQ5
  have N5 := Fr.app N4 N5q
  obtain ⟨cq6, kq6, q6a, q6b, q6c⟩ := isOf hZ e5 (P8.ext O0.2)
  obtain ⟨_, _, ⟨T6, L6, k6, n6⟩, -, X6, ⟨Lc6, hQ6, l6, y6, z6⟩, st6⟩ := X5.virtualBack hx (y := (⟨"com/example/key_warden/keywarden/engine/LockMode", "conflictsWith", "(Lcom/example/key_warden/keywarden/engine/LockMode;)Z"⟩ : MethodName)) (z := (⟨"com/example/key_warden/keywarden/engine/LockMode", "conflictsWith", "(Lcom/example/key_warden/keywarden/engine/LockMode;)Z"⟩ : MethodName)) hown (mvT hZ (hw _ (List.mem_of_getElem? (i := 16) rfl))) (mvT hZ (hw _ (List.mem_of_getElem? (i := 17) rfl))) (notFace_of_selects (args := #[]) (mvT hZ (hw _ (List.mem_of_getElem? (i := 19) rfl)))) (mvT hZ (hw _ (List.mem_of_getElem? (i := 19) rfl))) (mvT hZ (hw _ (List.mem_of_getElem? (i := 18) rfl))) (by decide) (backOf (W := 0) (P9 h0 O0) hZ (hw _ (List.mem_of_getElem? (i := 20) rfl)) (hw _ (List.mem_of_getElem? (i := 12) rfl)) (by decide) (by decide)) q6a q6c (g := (mkF m 48 #[.val (.int p1), .val (.int p2), .val (.int p3), .val (.int p4), .val (.int p5), .val (.int p6), .val (.int (0 : Int32))] [(.ref w_j), (.ref w_i)])) rfl (by rw [hml]; rfl) (Steps.refl _) (argsL := [(.ref w_j)]) (rest := []) (lenOf pd_3 rfl) rfl (by show 2 * 0 + _ ≤ _; exact Nat.le_of_eq rfl) (hb hby at_48) (fun _ _ => ⟨rfl, e5, (by decide : 0 + 0 ≤ _), (by decide : 0 + 0 ≤ _)⟩)
  dsimp only [Pt.U, Pt.locs, Pt.cells, Pt.slots] at X6 l6 y6 z6 st6 hQ6
  subst l6 y6 z6
  obtain ⟨rfl, N6q, e6⟩ := hQ6
  have N6 := Fr.app N5 N6q
  obtain ⟨fs, hr, hrun, hended, hW, hsame⟩ := X6.leave (v := some (.int (1 : Int32))) (fun h => by rw [Bd.returns] at h; cases h)
  refine ⟨_, _, pre0 _ ?_, hrun, hended, _, _, rfl, ?_, ⟨_, rfl⟩, hW, hsame.mono (by decide) (by decide)⟩
  · show Steps p.tables e below (s₁.setTop (mkF m 0 #[.val (.int p1), .val (.int p2), .val (.int p3), .unset, .unset, .unset, .unset] [])) _
    refine XS.iloadN X0.here hx rfl (hb hby at_0) rfl ?_
    show Steps p.tables e below (s₁.setTop (mkF m 1 #[.val (.int p1), .val (.int p2), .val (.int p3), .unset, .unset, .unset, .unset] [(.int p3)])) _
    refine XS.iconst X0.here hx rfl (hb hby at_1) ?_
    show Steps p.tables e below (s₁.setTop (mkF m 2 #[.val (.int p1), .val (.int p2), .val (.int p3), .unset, .unset, .unset, .unset] [(.int (1 : Int32)), (.int p3)])) _
    refine XS.iand X0.here hx rfl (hb hby at_2) rfl ?_
    show Steps p.tables e below (s₁.setTop (mkF m 3 #[.val (.int p1), .val (.int p2), .val (.int p3), .unset, .unset, .unset, .unset] [(.int (p3 &&& (1 : Int32)))])) _
    rw [P1]
    show Steps p.tables e below (s₁.setTop (mkF m 3 #[.val (.int p1), .val (.int p2), .val (.int p3), .unset, .unset, .unset, .unset] [(.int p4)])) _
    refine XS.istoreN X0.here hx rfl (hb hby at_3) rfl (l' := #[.val (.int p1), .val (.int p2), .val (.int p3), .val (.int p4), .unset, .unset, .unset]) rfl ?_
    show Steps p.tables e below (s₁.setTop (mkF m 4 #[.val (.int p1), .val (.int p2), .val (.int p3), .val (.int p4), .unset, .unset, .unset] [])) _
    refine XS.iloadN X0.here hx rfl (hb hby at_4) rfl ?_
    show Steps p.tables e below (s₁.setTop (mkF m 5 #[.val (.int p1), .val (.int p2), .val (.int p3), .val (.int p4), .unset, .unset, .unset] [(.int p4)])) _
    refine XS.iloadN X0.here hx rfl (hb hby at_5) rfl ?_
    show Steps p.tables e below (s₁.setTop (mkF m 6 #[.val (.int p1), .val (.int p2), .val (.int p3), .val (.int p4), .unset, .unset, .unset] [(.int p1), (.int p4)])) _
    refine st1 _ ?_
    show Steps p.tables e below (T1.setTop (mkF m 9 #[.val (.int p1), .val (.int p2), .val (.int p3), .val (.int p4), .unset, .unset, .unset] [(.int p5)])) _
    refine XS.istore X1.here hx rfl (hb hby at_9) rfl (l' := #[.val (.int p1), .val (.int p2), .val (.int p3), .val (.int p4), .val (.int p5), .unset, .unset]) rfl ?_
    show Steps p.tables e below (T1.setTop (mkF m 11 #[.val (.int p1), .val (.int p2), .val (.int p3), .val (.int p4), .val (.int p5), .unset, .unset] [])) _
    refine XS.iloadN X1.here hx rfl (hb hby at_11) rfl ?_
    show Steps p.tables e below (T1.setTop (mkF m 12 #[.val (.int p1), .val (.int p2), .val (.int p3), .val (.int p4), .val (.int p5), .unset, .unset] [(.int p4)])) _
    refine XS.iloadN X1.here hx rfl (hb hby at_12) rfl ?_
    show Steps p.tables e below (T1.setTop (mkF m 13 #[.val (.int p1), .val (.int p2), .val (.int p3), .val (.int p4), .val (.int p5), .unset, .unset] [(.int p2), (.int p4)])) _
    refine st2 _ ?_
    show Steps p.tables e below (T2.setTop (mkF m 16 #[.val (.int p1), .val (.int p2), .val (.int p3), .val (.int p4), .val (.int p5), .unset, .unset] [(.int p6)])) _
    refine XS.istore X2.here hx rfl (hb hby at_16) rfl (l' := #[.val (.int p1), .val (.int p2), .val (.int p3), .val (.int p4), .val (.int p5), .val (.int p6), .unset]) rfl ?_
    show Steps p.tables e below (T2.setTop (mkF m 18 #[.val (.int p1), .val (.int p2), .val (.int p3), .val (.int p4), .val (.int p5), .val (.int p6), .unset] [])) _
    refine XS.iload X2.here hx rfl (hb hby at_18) rfl ?_
    show Steps p.tables e below (T2.setTop (mkF m 20 #[.val (.int p1), .val (.int p2), .val (.int p3), .val (.int p4), .val (.int p5), .val (.int p6), .unset] [(.int p5)])) _
    refine st3 _ ?_
    show Steps p.tables e below (T3.setTop (mkF m 23 #[.val (.int p1), .val (.int p2), .val (.int p3), .val (.int p4), .val (.int p5), .val (.int p6), .unset] [(.int p7)])) _
    refine XS.iload X3.here hx rfl (hb hby at_23) rfl ?_
    show Steps p.tables e below (T3.setTop (mkF m 25 #[.val (.int p1), .val (.int p2), .val (.int p3), .val (.int p4), .val (.int p5), .val (.int p6), .unset] [(.int p6), (.int p7)])) _
    refine XS.iushr X3.here hx rfl (hb hby at_25) rfl ?_
    show Steps p.tables e below (T3.setTop (mkF m 26 #[.val (.int p1), .val (.int p2), .val (.int p3), .val (.int p4), .val (.int p5), .val (.int p6), .unset] [(.int ((p7.toUInt32 >>> (p6 &&& 31).toUInt32).toInt32))])) _
    refine XS.iconst X3.here hx rfl (hb hby at_26) ?_
    show Steps p.tables e below (T3.setTop (mkF m 27 #[.val (.int p1), .val (.int p2), .val (.int p3), .val (.int p4), .val (.int p5), .val (.int p6), .unset] [(.int (1 : Int32)), (.int ((p7.toUInt32 >>> (p6 &&& 31).toUInt32).toInt32))])) _
    refine XS.iand X3.here hx rfl (hb hby at_27) rfl ?_
    show Steps p.tables e below (T3.setTop (mkF m 28 #[.val (.int p1), .val (.int p2), .val (.int p3), .val (.int p4), .val (.int p5), .val (.int p6), .unset] [(.int (((p7.toUInt32 >>> (p6 &&& 31).toUInt32).toInt32) &&& (1 : Int32)))])) _
    refine XS.ifYes X3.here hx rfl (pc0 := 28) (pc' := 35) rfl (hb hby at_28) rfl ((if0 _ _).trans (teq P5).1) (by decide) (by decide) ?_
    show Steps p.tables e below (T3.setTop (mkF m 35 #[.val (.int p1), .val (.int p2), .val (.int p3), .val (.int p4), .val (.int p5), .val (.int p6), .unset] [])) _
    refine XS.iconst X3.here hx rfl (hb hby at_35) ?_
    show Steps p.tables e below (T3.setTop (mkF m 36 #[.val (.int p1), .val (.int p2), .val (.int p3), .val (.int p4), .val (.int p5), .val (.int p6), .unset] [(.int (0 : Int32))])) _
    refine XS.istore X3.here hx rfl (hb hby at_36) rfl (l' := #[.val (.int p1), .val (.int p2), .val (.int p3), .val (.int p4), .val (.int p5), .val (.int p6), .val (.int (0 : Int32))]) rfl ?_
    show Steps p.tables e below (T3.setTop (mkF m 38 #[.val (.int p1), .val (.int p2), .val (.int p3), .val (.int p4), .val (.int p5), .val (.int p6), .val (.int (0 : Int32))] [])) _
    refine XS.iload X3.here hx rfl (hb hby at_38) rfl ?_
    show Steps p.tables e below (T3.setTop (mkF m 40 #[.val (.int p1), .val (.int p2), .val (.int p3), .val (.int p4), .val (.int p5), .val (.int p6), .val (.int (0 : Int32))] [(.int p5)])) _
    refine st4 _ ?_
    show Steps p.tables e below (T4.setTop (mkF m 43 #[.val (.int p1), .val (.int p2), .val (.int p3), .val (.int p4), .val (.int p5), .val (.int p6), .val (.int (0 : Int32))] [(.ref w_i)])) _
    refine XS.iload X4.here hx rfl (hb hby at_43) rfl ?_
    show Steps p.tables e below (T4.setTop (mkF m 45 #[.val (.int p1), .val (.int p2), .val (.int p3), .val (.int p4), .val (.int p5), .val (.int p6), .val (.int (0 : Int32))] [(.int p6), (.ref w_i)])) _
    refine st5 _ ?_
    show Steps p.tables e below (T5.setTop (mkF m 48 #[.val (.int p1), .val (.int p2), .val (.int p3), .val (.int p4), .val (.int p5), .val (.int p6), .val (.int (0 : Int32))] [(.ref w_j), (.ref w_i)])) _
    refine st6.trans ?_
    show Steps p.tables e below (T6.setTop (mkF m 51 #[.val (.int p1), .val (.int p2), .val (.int p3), .val (.int p4), .val (.int p5), .val (.int p6), .val (.int (0 : Int32))] [(.int (0 : Int32))])) _
    refine XS.iload X6.here hx rfl (hb hby at_51) rfl ?_
    show Steps p.tables e below (T6.setTop (mkF m 53 #[.val (.int p1), .val (.int p2), .val (.int p3), .val (.int p4), .val (.int p5), .val (.int p6), .val (.int (0 : Int32))] [(.int (0 : Int32)), (.int (0 : Int32))])) _
    refine XS.icmpNo X6.here hx rfl (hb hby at_53) rfl (by decide) ?_
    show Steps p.tables e below (T6.setTop (mkF m 56 #[.val (.int p1), .val (.int p2), .val (.int p3), .val (.int p4), .val (.int p5), .val (.int p6), .val (.int (0 : Int32))] [])) _
    refine XS.iconst X6.here hx rfl (hb hby at_56) ?_
    show Steps p.tables e below (T6.setTop (mkF m 57 #[.val (.int p1), .val (.int p2), .val (.int p3), .val (.int p4), .val (.int p5), .val (.int p6), .val (.int (0 : Int32))] [(.int (1 : Int32))])) _
    refine XS.goto X6.here hx rfl (pc0 := 57) (pc' := 61) rfl (hb hby at_57) (by decide) (by decide) ?_
    show Steps p.tables e below (T6.setTop (mkF m 61 #[.val (.int p1), .val (.int p2), .val (.int p3), .val (.int p4), .val (.int p5), .val (.int p6), .val (.int (0 : Int32))] [(.int (1 : Int32))])) _
    exact retN X6 hx (t := .boolean) Bd.returns (by simp) (hb hby at_61) hr
  · show own_Q1 n0 _ T6.heap _
    rw [e6]
    exact ⟨rfl, N6⟩
set_option maxRecDepth 65536 in
set_option maxHeartbeats 40000000 in
theorem law_1 (l : Launch) (Z : State) (a0 : Array Value) (hw : ∀ d ∈ tables_1, d.before a0 Z = true) (ws : List Jvm.Cond) (p1 : Int32) (p2 : Int32) (p3 : Int32) (p4 : Int32) (p5 : Int32) (p6 : Int32) (p7 : Int32) (w_i : Addr) (w_j : Addr) (h0 : Heap) (n0 : Nat) (O0 : Old Z n0 h0) (P1 : (p3 &&& (1 : Int32)) = p4) (P2 : ∀ (h0 : Heap), Old Z n0 h0 → MetFree l (⟨"com/example/key_warden/keywarden/engine/LockModeConflictsWithPinLaw", "pick", "(II)I"⟩ : MethodName) (head1 [Jvm.Cond.code (⟨"com/example/key_warden/keywarden/engine/LockModeConflictsWithPinLaw", "pick", "(II)I"⟩ : MethodName) method_2_code 4 (some .int)] ({ frames := 0, cells := 0, slots := 0, locals := 0 } : Room)) (fun a U => a = #[(.int p4), (.int p1)] ∧ Z.Warmed39 U.vm ∧ U.heap = h0) (fun _ _ _ _ _ => True) (fun _ U o U' => ∃ v L, o = .returned v ∧ own_QP (some (.int p5)) n0 h0 v U'.heap L ∧ FrameEnd U o U' L ({ frames := 0, cells := 0, slots := 0, locals := 0 } : Room).cells ({ frames := 0, cells := 0, slots := 0, locals := 0 } : Room).slots)) (P3 : ∀ (h0 : Heap), Old Z n0 h0 → MetFree l (⟨"com/example/key_warden/keywarden/engine/LockModeConflictsWithPinLaw", "pick", "(II)I"⟩ : MethodName) (head1 [Jvm.Cond.code (⟨"com/example/key_warden/keywarden/engine/LockModeConflictsWithPinLaw", "pick", "(II)I"⟩ : MethodName) method_2_code 4 (some .int)] ({ frames := 0, cells := 0, slots := 0, locals := 0 } : Room)) (fun a U => a = #[(.int p4), (.int p2)] ∧ Z.Warmed39 U.vm ∧ U.heap = h0) (fun _ _ _ _ _ => True) (fun _ U o U' => ∃ v L, o = .returned v ∧ own_QP (some (.int p6)) n0 h0 v U'.heap L ∧ FrameEnd U o U' L ({ frames := 0, cells := 0, slots := 0, locals := 0 } : Room).cells ({ frames := 0, cells := 0, slots := 0, locals := 0 } : Room).slots)) (P4 : ∀ (h0 : Heap), Old Z n0 h0 → MetFree l (⟨"com/example/key_warden/keywarden/engine/LockModeConflictsWithPinLaw", "row", "(I)I"⟩ : MethodName) (head1 [Jvm.Cond.code (⟨"com/example/key_warden/keywarden/engine/LockModeConflictsWithPinLaw", "row", "(I)I"⟩ : MethodName) method_4_code 1 (some .int)] ({ frames := 0, cells := 0, slots := 0, locals := 0 } : Room)) (fun a U => a = #[(.int p5)] ∧ Z.Warmed39 U.vm ∧ U.heap = h0) (fun _ _ _ _ _ => True) (fun _ U o U' => ∃ v L, o = .returned v ∧ own_QP (some (.int p7)) n0 h0 v U'.heap L ∧ FrameEnd U o U' L ({ frames := 0, cells := 0, slots := 0, locals := 0 } : Room).cells ({ frames := 0, cells := 0, slots := 0, locals := 0 } : Room).slots)) (P5 : ¬ ((((p7.toUInt32 >>> (p6 &&& 31).toUInt32).toInt32) &&& (1 : Int32)) = (0 : Int32))) (P6 : ∀ (h0 : Heap), Old Z n0 h0 → MetFree l (⟨"com/example/key_warden/keywarden/engine/LockModeConflictsWithPinLaw", "mode", "(I)Lcom/example/key_warden/keywarden/engine/LockMode;"⟩ : MethodName) (head1 [Jvm.Cond.code (⟨"com/example/key_warden/keywarden/engine/LockModeConflictsWithPinLaw", "mode", "(I)Lcom/example/key_warden/keywarden/engine/LockMode;"⟩ : MethodName) method_3_code 1 (some (.object "com/example/key_warden/keywarden/engine/LockMode"))] ({ frames := 0, cells := 0, slots := 0, locals := 0 } : Room)) (fun a U => a = #[(.int p5)] ∧ Z.Warmed39 U.vm ∧ U.heap = h0) (fun _ _ _ _ _ => True) (fun _ U o U' => ∃ v L, o = .returned v ∧ own_QP (some (.ref w_i)) n0 h0 v U'.heap L ∧ FrameEnd U o U' L ({ frames := 0, cells := 0, slots := 0, locals := 0 } : Room).cells ({ frames := 0, cells := 0, slots := 0, locals := 0 } : Room).slots)) (P7 : ∀ (h0 : Heap), Old Z n0 h0 → MetFree l (⟨"com/example/key_warden/keywarden/engine/LockModeConflictsWithPinLaw", "mode", "(I)Lcom/example/key_warden/keywarden/engine/LockMode;"⟩ : MethodName) (head1 [Jvm.Cond.code (⟨"com/example/key_warden/keywarden/engine/LockModeConflictsWithPinLaw", "mode", "(I)Lcom/example/key_warden/keywarden/engine/LockMode;"⟩ : MethodName) method_3_code 1 (some (.object "com/example/key_warden/keywarden/engine/LockMode"))] ({ frames := 0, cells := 0, slots := 0, locals := 0 } : Room)) (fun a U => a = #[(.int p6)] ∧ Z.Warmed39 U.vm ∧ U.heap = h0) (fun _ _ _ _ _ => True) (fun _ U o U' => ∃ v L, o = .returned v ∧ own_QP (some (.ref w_j)) n0 h0 v U'.heap L ∧ FrameEnd U o U' L ({ frames := 0, cells := 0, slots := 0, locals := 0 } : Room).cells ({ frames := 0, cells := 0, slots := 0, locals := 0 } : Room).slots)) (P8 : Exa Z Z.heap w_i "com/example/key_warden/keywarden/engine/LockMode") (P9 : ∀ (h0 : Heap), Old Z n0 h0 → MetFree l (⟨"com/example/key_warden/keywarden/engine/LockMode", "conflictsWith", "(Lcom/example/key_warden/keywarden/engine/LockMode;)Z"⟩ : MethodName) (head1 [Jvm.Cond.code (⟨"com/example/key_warden/keywarden/engine/LockMode", "conflictsWith", "(Lcom/example/key_warden/keywarden/engine/LockMode;)Z"⟩ : MethodName) prog_26_method_6_code 3 (some .boolean)] ({ frames := 0, cells := 0, slots := 0, locals := 0 } : Room)) (fun a U => a = #[(.ref w_i), (.ref w_j)] ∧ Z.Warmed39 U.vm ∧ U.heap = h0) (fun _ _ _ _ _ => True) (fun _ U o U' => ∃ v L, o = .returned v ∧ own_QP (some (.int (1 : Int32))) n0 h0 v U'.heap L ∧ FrameEnd U o U' L ({ frames := 0, cells := 0, slots := 0, locals := 0 } : Room).cells ({ frames := 0, cells := 0, slots := 0, locals := 0 } : Room).slots)) :
    MetFree l x (head1 (Jvm.Cond.code x code maxLocals ret :: ws) room_1) (fun a U => a = #[(.int p1), (.int p2), (.int p3)] ∧ Z.Warmed39 U.vm ∧ U.heap = h0) (fun _ _ _ _ _ => True) (fun _ U o U' => ∃ v L, o = .returned v ∧ own_Q1 n0 v U'.heap L ∧ FrameEnd U o U' L room_1.cells room_1.slots) := by
  refine MetFree.of_bodySF (plainFor_of_name pn_4) hisR ?_
  intro p e s m args below meth c s₁ Bd hml0 hP hK
  obtain ⟨rfl, hZ, hh⟩ := hP
  have hx := Bd.exec
  have hby := Bd.bytes
  have hml : c.maxLocals = 7 := hml0
  have hown : s.vm.findClass "com/example/key_warden/keywarden/engine/LockModeConflictsWithPinLaw" = some m.cls := findClass_of_methodNamed Bd.named
  have hnm := (name_of_methodNamed Bd.named Bd.method).1
  have X0 : Stand p l e room_1 s m #[(.int p1), (.int p2), (.int p3)] below meth c s₁ [] 0 0 := Stand.of_body Bd
  have e0 : s₁.heap = h0 := by rw [← hh, Bd.state]; rfl
  have N0 := Fr.nil n0
  have pre0 : ∀ t, Steps p.tables e below (s₁.setTop (mkF m 0 #[.val (.int p1), .val (.int p2), .val (.int p3), .unset, .unset, .unset, .unset] [])) t → Steps p.tables e below (s₁.setTop (entryFrame m #[(.int p1), (.int p2), (.int p3)] maxLocals)) t := fun t k => castTop (ef_0_III m p1 p2 p3) k
  obtain ⟨_, _, ⟨T1, L1, k1, n1⟩, -, X1, ⟨Lc1, hQ1, l1, y1, z1⟩, st1⟩ := Jvm.LawKit.callS X0 hx (y := (⟨"com/example/key_warden/keywarden/engine/LockModeConflictsWithPinLaw", "pick", "(II)I"⟩ : MethodName)) hown (mvT hZ (hw _ (List.mem_of_getElem? (i := 0) rfl))) (mvT hZ (hw _ (List.mem_of_getElem? (i := 1) rfl))) (mvT hZ (hw _ (List.mem_of_getElem? (i := 2) rfl))) (mvT hZ (hw _ (List.mem_of_getElem? (i := 3) rfl))) (by decide) (backOf (W := 0) (P2 h0 O0) hZ (hw _ (List.mem_of_getElem? (i := 3) rfl)) (hw _ (List.mem_of_getElem? (i := 2) rfl)) (by decide) (by decide)) (g := (mkF m 6 #[.val (.int p1), .val (.int p2), .val (.int p3), .val (.int p4), .unset, .unset, .unset] [(.int p1), (.int p4)])) rfl (by rw [hml]; rfl) (argsL := [(.int p4), (.int p1)]) (rest := []) (lenOf pd_0 rfl) rfl (by show 2 * 0 + _ ≤ _; exact Nat.le_of_eq rfl) (hb hby at_6) (fun _ _ => ⟨rfl, e0, (by decide : 0 + 0 ≤ _), (by decide : 0 + 0 ≤ _)⟩)
  dsimp only [Pt.U, Pt.locs, Pt.cells, Pt.slots] at X1 l1 y1 z1 st1 hQ1
  subst l1 y1 z1
  obtain ⟨rfl, N1q, e1⟩ := hQ1
  have N1 := Fr.app N0 N1q
  obtain ⟨_, _, ⟨T2, L2, k2, n2⟩, -, X2, ⟨Lc2, hQ2, l2, y2, z2⟩, st2⟩ := Jvm.LawKit.callS X1 hx (y := (⟨"com/example/key_warden/keywarden/engine/LockModeConflictsWithPinLaw", "pick", "(II)I"⟩ : MethodName)) hown (mvT hZ (hw _ (List.mem_of_getElem? (i := 0) rfl))) (mvT hZ (hw _ (List.mem_of_getElem? (i := 1) rfl))) (mvT hZ (hw _ (List.mem_of_getElem? (i := 2) rfl))) (mvT hZ (hw _ (List.mem_of_getElem? (i := 3) rfl))) (by decide) (backOf (W := 0) (P3 h0 O0) hZ (hw _ (List.mem_of_getElem? (i := 3) rfl)) (hw _ (List.mem_of_getElem? (i := 2) rfl)) (by decide) (by decide)) (g := (mkF m 13 #[.val (.int p1), .val (.int p2), .val (.int p3), .val (.int p4), .val (.int p5), .unset, .unset] [(.int p2), (.int p4)])) rfl (by rw [hml]; rfl) (argsL := [(.int p4), (.int p2)]) (rest := []) (lenOf pd_0 rfl) rfl (by show 2 * 0 + _ ≤ _; exact Nat.le_of_eq rfl) (hb hby at_13) (fun _ _ => ⟨rfl, e1, (by decide : 0 + 0 ≤ _), (by decide : 0 + 0 ≤ _)⟩)
  dsimp only [Pt.U, Pt.locs, Pt.cells, Pt.slots] at X2 l2 y2 z2 st2 hQ2
  subst l2 y2 z2
  obtain ⟨rfl, N2q, e2⟩ := hQ2
  have N2 := Fr.app N1 N2q
  obtain ⟨_, _, ⟨T3, L3, k3, n3⟩, -, X3, ⟨Lc3, hQ3, l3, y3, z3⟩, st3⟩ := Jvm.LawKit.callS X2 hx (y := (⟨"com/example/key_warden/keywarden/engine/LockModeConflictsWithPinLaw", "row", "(I)I"⟩ : MethodName)) hown (mvT hZ (hw _ (List.mem_of_getElem? (i := 5) rfl))) (mvT hZ (hw _ (List.mem_of_getElem? (i := 6) rfl))) (mvT hZ (hw _ (List.mem_of_getElem? (i := 2) rfl))) (mvT hZ (hw _ (List.mem_of_getElem? (i := 7) rfl))) (by decide) (backOf (W := 0) (P4 h0 O0) hZ (hw _ (List.mem_of_getElem? (i := 7) rfl)) (hw _ (List.mem_of_getElem? (i := 2) rfl)) (by decide) (by decide)) (g := (mkF m 20 #[.val (.int p1), .val (.int p2), .val (.int p3), .val (.int p4), .val (.int p5), .val (.int p6), .unset] [(.int p5)])) rfl (by rw [hml]; rfl) (argsL := [(.int p5)]) (rest := []) (lenOf pd_1 rfl) rfl (by show 2 * 0 + _ ≤ _; exact Nat.le_of_eq rfl) (hb hby at_20) (fun _ _ => ⟨rfl, e2, (by decide : 0 + 0 ≤ _), (by decide : 0 + 0 ≤ _)⟩)
  dsimp only [Pt.U, Pt.locs, Pt.cells, Pt.slots] at X3 l3 y3 z3 st3 hQ3
  subst l3 y3 z3
  obtain ⟨rfl, N3q, e3⟩ := hQ3
  have N3 := Fr.app N2 N3q
  obtain ⟨_, _, ⟨T4, L4, k4, n4⟩, -, X4, ⟨Lc4, hQ4, l4, y4, z4⟩, st4⟩ := Jvm.LawKit.callS X3 hx (y := (⟨"com/example/key_warden/keywarden/engine/LockModeConflictsWithPinLaw", "mode", "(I)Lcom/example/key_warden/keywarden/engine/LockMode;"⟩ : MethodName)) hown (mvT hZ (hw _ (List.mem_of_getElem? (i := 8) rfl))) (mvT hZ (hw _ (List.mem_of_getElem? (i := 9) rfl))) (mvT hZ (hw _ (List.mem_of_getElem? (i := 2) rfl))) (mvT hZ (hw _ (List.mem_of_getElem? (i := 10) rfl))) (by decide) (backOf (W := 0) (P6 h0 O0) hZ (hw _ (List.mem_of_getElem? (i := 10) rfl)) (hw _ (List.mem_of_getElem? (i := 2) rfl)) (by decide) (by decide)) (g := (mkF m 40 #[.val (.int p1), .val (.int p2), .val (.int p3), .val (.int p4), .val (.int p5), .val (.int p6), .val (.int (1 : Int32))] [(.int p5)])) rfl (by rw [hml]; rfl) (argsL := [(.int p5)]) (rest := []) (lenOf pd_2 rfl) rfl (by show 2 * 0 + _ ≤ _; exact Nat.le_of_eq rfl) (hb hby at_40) (fun _ _ => ⟨rfl, e3, (by decide : 0 + 0 ≤ _), (by decide : 0 + 0 ≤ _)⟩)
  dsimp only [Pt.U, Pt.locs, Pt.cells, Pt.slots] at X4 l4 y4 z4 st4 hQ4
  subst l4 y4 z4
  obtain ⟨rfl, N4q, e4⟩ := hQ4
  have N4 := Fr.app N3 N4q
  obtain ⟨_, _, ⟨T5, L5, k5, n5⟩, -, X5, ⟨Lc5, hQ5, l5, y5, z5⟩, st5⟩ := Jvm.LawKit.callS X4 hx (y := (⟨"com/example/key_warden/keywarden/engine/LockModeConflictsWithPinLaw", "mode", "(I)Lcom/example/key_warden/keywarden/engine/LockMode;"⟩ : MethodName)) hown (mvT hZ (hw _ (List.mem_of_getElem? (i := 8) rfl))) (mvT hZ (hw _ (List.mem_of_getElem? (i := 9) rfl))) (mvT hZ (hw _ (List.mem_of_getElem? (i := 2) rfl))) (mvT hZ (hw _ (List.mem_of_getElem? (i := 10) rfl))) (by decide) (backOf (W := 1) (P7 h0 O0) hZ (hw _ (List.mem_of_getElem? (i := 10) rfl)) (hw _ (List.mem_of_getElem? (i := 2) rfl)) (by decide) (by decide)) (g := (mkF m 45 #[.val (.int p1), .val (.int p2), .val (.int p3), .val (.int p4), .val (.int p5), .val (.int p6), .val (.int (1 : Int32))] [(.int p6), (.ref w_i)])) rfl (by rw [hml]; rfl) (argsL := [(.int p6)]) (rest := [(.ref w_i)]) (lenOf pd_2 rfl) rfl (by show 2 * 0 + _ ≤ _; exact Nat.le_of_eq rfl) (hb hby at_45) (fun _ _ => ⟨rfl, e4, (by decide : 0 + 0 ≤ _), (by decide : 0 + 0 ≤ _)⟩)
  dsimp only [Pt.U, Pt.locs, Pt.cells, Pt.slots] at X5 l5 y5 z5 st5 hQ5
  subst l5 y5 z5
  obtain ⟨rfl, N5q, e5⟩ := hQ5
  have N5 := Fr.app N4 N5q
  obtain ⟨cq6, kq6, q6a, q6b, q6c⟩ := isOf hZ e5 (P8.ext O0.2)
  obtain ⟨_, _, ⟨T6, L6, k6, n6⟩, -, X6, ⟨Lc6, hQ6, l6, y6, z6⟩, st6⟩ := X5.virtualBack hx (y := (⟨"com/example/key_warden/keywarden/engine/LockMode", "conflictsWith", "(Lcom/example/key_warden/keywarden/engine/LockMode;)Z"⟩ : MethodName)) (z := (⟨"com/example/key_warden/keywarden/engine/LockMode", "conflictsWith", "(Lcom/example/key_warden/keywarden/engine/LockMode;)Z"⟩ : MethodName)) hown (mvT hZ (hw _ (List.mem_of_getElem? (i := 16) rfl))) (mvT hZ (hw _ (List.mem_of_getElem? (i := 17) rfl))) (notFace_of_selects (args := #[]) (mvT hZ (hw _ (List.mem_of_getElem? (i := 19) rfl)))) (mvT hZ (hw _ (List.mem_of_getElem? (i := 19) rfl))) (mvT hZ (hw _ (List.mem_of_getElem? (i := 18) rfl))) (by decide) (backOf (W := 0) (P9 h0 O0) hZ (hw _ (List.mem_of_getElem? (i := 20) rfl)) (hw _ (List.mem_of_getElem? (i := 12) rfl)) (by decide) (by decide)) q6a q6c (g := (mkF m 48 #[.val (.int p1), .val (.int p2), .val (.int p3), .val (.int p4), .val (.int p5), .val (.int p6), .val (.int (1 : Int32))] [(.ref w_j), (.ref w_i)])) rfl (by rw [hml]; rfl) (Steps.refl _) (argsL := [(.ref w_j)]) (rest := []) (lenOf pd_3 rfl) rfl (by show 2 * 0 + _ ≤ _; exact Nat.le_of_eq rfl) (hb hby at_48) (fun _ _ => ⟨rfl, e5, (by decide : 0 + 0 ≤ _), (by decide : 0 + 0 ≤ _)⟩)
  dsimp only [Pt.U, Pt.locs, Pt.cells, Pt.slots] at X6 l6 y6 z6 st6 hQ6
  subst l6 y6 z6
  obtain ⟨rfl, N6q, e6⟩ := hQ6
  have N6 := Fr.app N5 N6q
  obtain ⟨fs, hr, hrun, hended, hW, hsame⟩ := X6.leave (v := some (.int (1 : Int32))) (fun h => by rw [Bd.returns] at h; cases h)
  refine ⟨_, _, pre0 _ ?_, hrun, hended, _, _, rfl, ?_, ⟨_, rfl⟩, hW, hsame.mono (by decide) (by decide)⟩
  · show Steps p.tables e below (s₁.setTop (mkF m 0 #[.val (.int p1), .val (.int p2), .val (.int p3), .unset, .unset, .unset, .unset] [])) _
    refine XS.iloadN X0.here hx rfl (hb hby at_0) rfl ?_
    show Steps p.tables e below (s₁.setTop (mkF m 1 #[.val (.int p1), .val (.int p2), .val (.int p3), .unset, .unset, .unset, .unset] [(.int p3)])) _
    refine XS.iconst X0.here hx rfl (hb hby at_1) ?_
    show Steps p.tables e below (s₁.setTop (mkF m 2 #[.val (.int p1), .val (.int p2), .val (.int p3), .unset, .unset, .unset, .unset] [(.int (1 : Int32)), (.int p3)])) _
    refine XS.iand X0.here hx rfl (hb hby at_2) rfl ?_
    show Steps p.tables e below (s₁.setTop (mkF m 3 #[.val (.int p1), .val (.int p2), .val (.int p3), .unset, .unset, .unset, .unset] [(.int (p3 &&& (1 : Int32)))])) _
    rw [P1]
    show Steps p.tables e below (s₁.setTop (mkF m 3 #[.val (.int p1), .val (.int p2), .val (.int p3), .unset, .unset, .unset, .unset] [(.int p4)])) _
    refine XS.istoreN X0.here hx rfl (hb hby at_3) rfl (l' := #[.val (.int p1), .val (.int p2), .val (.int p3), .val (.int p4), .unset, .unset, .unset]) rfl ?_
    show Steps p.tables e below (s₁.setTop (mkF m 4 #[.val (.int p1), .val (.int p2), .val (.int p3), .val (.int p4), .unset, .unset, .unset] [])) _
    refine XS.iloadN X0.here hx rfl (hb hby at_4) rfl ?_
    show Steps p.tables e below (s₁.setTop (mkF m 5 #[.val (.int p1), .val (.int p2), .val (.int p3), .val (.int p4), .unset, .unset, .unset] [(.int p4)])) _
    refine XS.iloadN X0.here hx rfl (hb hby at_5) rfl ?_
    show Steps p.tables e below (s₁.setTop (mkF m 6 #[.val (.int p1), .val (.int p2), .val (.int p3), .val (.int p4), .unset, .unset, .unset] [(.int p1), (.int p4)])) _
    refine st1 _ ?_
    show Steps p.tables e below (T1.setTop (mkF m 9 #[.val (.int p1), .val (.int p2), .val (.int p3), .val (.int p4), .unset, .unset, .unset] [(.int p5)])) _
    refine XS.istore X1.here hx rfl (hb hby at_9) rfl (l' := #[.val (.int p1), .val (.int p2), .val (.int p3), .val (.int p4), .val (.int p5), .unset, .unset]) rfl ?_
    show Steps p.tables e below (T1.setTop (mkF m 11 #[.val (.int p1), .val (.int p2), .val (.int p3), .val (.int p4), .val (.int p5), .unset, .unset] [])) _
    refine XS.iloadN X1.here hx rfl (hb hby at_11) rfl ?_
    show Steps p.tables e below (T1.setTop (mkF m 12 #[.val (.int p1), .val (.int p2), .val (.int p3), .val (.int p4), .val (.int p5), .unset, .unset] [(.int p4)])) _
    refine XS.iloadN X1.here hx rfl (hb hby at_12) rfl ?_
    show Steps p.tables e below (T1.setTop (mkF m 13 #[.val (.int p1), .val (.int p2), .val (.int p3), .val (.int p4), .val (.int p5), .unset, .unset] [(.int p2), (.int p4)])) _
    refine st2 _ ?_
    show Steps p.tables e below (T2.setTop (mkF m 16 #[.val (.int p1), .val (.int p2), .val (.int p3), .val (.int p4), .val (.int p5), .unset, .unset] [(.int p6)])) _
    refine XS.istore X2.here hx rfl (hb hby at_16) rfl (l' := #[.val (.int p1), .val (.int p2), .val (.int p3), .val (.int p4), .val (.int p5), .val (.int p6), .unset]) rfl ?_
    show Steps p.tables e below (T2.setTop (mkF m 18 #[.val (.int p1), .val (.int p2), .val (.int p3), .val (.int p4), .val (.int p5), .val (.int p6), .unset] [])) _
    refine XS.iload X2.here hx rfl (hb hby at_18) rfl ?_
    show Steps p.tables e below (T2.setTop (mkF m 20 #[.val (.int p1), .val (.int p2), .val (.int p3), .val (.int p4), .val (.int p5), .val (.int p6), .unset] [(.int p5)])) _
    refine st3 _ ?_
    show Steps p.tables e below (T3.setTop (mkF m 23 #[.val (.int p1), .val (.int p2), .val (.int p3), .val (.int p4), .val (.int p5), .val (.int p6), .unset] [(.int p7)])) _
    refine XS.iload X3.here hx rfl (hb hby at_23) rfl ?_
    show Steps p.tables e below (T3.setTop (mkF m 25 #[.val (.int p1), .val (.int p2), .val (.int p3), .val (.int p4), .val (.int p5), .val (.int p6), .unset] [(.int p6), (.int p7)])) _
    refine XS.iushr X3.here hx rfl (hb hby at_25) rfl ?_
    show Steps p.tables e below (T3.setTop (mkF m 26 #[.val (.int p1), .val (.int p2), .val (.int p3), .val (.int p4), .val (.int p5), .val (.int p6), .unset] [(.int ((p7.toUInt32 >>> (p6 &&& 31).toUInt32).toInt32))])) _
    refine XS.iconst X3.here hx rfl (hb hby at_26) ?_
    show Steps p.tables e below (T3.setTop (mkF m 27 #[.val (.int p1), .val (.int p2), .val (.int p3), .val (.int p4), .val (.int p5), .val (.int p6), .unset] [(.int (1 : Int32)), (.int ((p7.toUInt32 >>> (p6 &&& 31).toUInt32).toInt32))])) _
    refine XS.iand X3.here hx rfl (hb hby at_27) rfl ?_
    show Steps p.tables e below (T3.setTop (mkF m 28 #[.val (.int p1), .val (.int p2), .val (.int p3), .val (.int p4), .val (.int p5), .val (.int p6), .unset] [(.int (((p7.toUInt32 >>> (p6 &&& 31).toUInt32).toInt32) &&& (1 : Int32)))])) _
    refine XS.ifNo X3.here hx rfl (hb hby at_28) rfl ((if0 _ _).trans (feq P5).1) ?_
    show Steps p.tables e below (T3.setTop (mkF m 31 #[.val (.int p1), .val (.int p2), .val (.int p3), .val (.int p4), .val (.int p5), .val (.int p6), .unset] [])) _
    refine XS.iconst X3.here hx rfl (hb hby at_31) ?_
    show Steps p.tables e below (T3.setTop (mkF m 32 #[.val (.int p1), .val (.int p2), .val (.int p3), .val (.int p4), .val (.int p5), .val (.int p6), .unset] [(.int (1 : Int32))])) _
    refine XS.goto X3.here hx rfl (pc0 := 32) (pc' := 36) rfl (hb hby at_32) (by decide) (by decide) ?_
    show Steps p.tables e below (T3.setTop (mkF m 36 #[.val (.int p1), .val (.int p2), .val (.int p3), .val (.int p4), .val (.int p5), .val (.int p6), .unset] [(.int (1 : Int32))])) _
    refine XS.istore X3.here hx rfl (hb hby at_36) rfl (l' := #[.val (.int p1), .val (.int p2), .val (.int p3), .val (.int p4), .val (.int p5), .val (.int p6), .val (.int (1 : Int32))]) rfl ?_
    show Steps p.tables e below (T3.setTop (mkF m 38 #[.val (.int p1), .val (.int p2), .val (.int p3), .val (.int p4), .val (.int p5), .val (.int p6), .val (.int (1 : Int32))] [])) _
    refine XS.iload X3.here hx rfl (hb hby at_38) rfl ?_
    show Steps p.tables e below (T3.setTop (mkF m 40 #[.val (.int p1), .val (.int p2), .val (.int p3), .val (.int p4), .val (.int p5), .val (.int p6), .val (.int (1 : Int32))] [(.int p5)])) _
    refine st4 _ ?_
    show Steps p.tables e below (T4.setTop (mkF m 43 #[.val (.int p1), .val (.int p2), .val (.int p3), .val (.int p4), .val (.int p5), .val (.int p6), .val (.int (1 : Int32))] [(.ref w_i)])) _
    refine XS.iload X4.here hx rfl (hb hby at_43) rfl ?_
    show Steps p.tables e below (T4.setTop (mkF m 45 #[.val (.int p1), .val (.int p2), .val (.int p3), .val (.int p4), .val (.int p5), .val (.int p6), .val (.int (1 : Int32))] [(.int p6), (.ref w_i)])) _
    refine st5 _ ?_
    show Steps p.tables e below (T5.setTop (mkF m 48 #[.val (.int p1), .val (.int p2), .val (.int p3), .val (.int p4), .val (.int p5), .val (.int p6), .val (.int (1 : Int32))] [(.ref w_j), (.ref w_i)])) _
    refine st6.trans ?_
    show Steps p.tables e below (T6.setTop (mkF m 51 #[.val (.int p1), .val (.int p2), .val (.int p3), .val (.int p4), .val (.int p5), .val (.int p6), .val (.int (1 : Int32))] [(.int (1 : Int32))])) _
    refine XS.iload X6.here hx rfl (hb hby at_51) rfl ?_
    show Steps p.tables e below (T6.setTop (mkF m 53 #[.val (.int p1), .val (.int p2), .val (.int p3), .val (.int p4), .val (.int p5), .val (.int p6), .val (.int (1 : Int32))] [(.int (1 : Int32)), (.int (1 : Int32))])) _
    refine XS.icmpNo X6.here hx rfl (hb hby at_53) rfl (by decide) ?_
    show Steps p.tables e below (T6.setTop (mkF m 56 #[.val (.int p1), .val (.int p2), .val (.int p3), .val (.int p4), .val (.int p5), .val (.int p6), .val (.int (1 : Int32))] [])) _
    refine XS.iconst X6.here hx rfl (hb hby at_56) ?_
    show Steps p.tables e below (T6.setTop (mkF m 57 #[.val (.int p1), .val (.int p2), .val (.int p3), .val (.int p4), .val (.int p5), .val (.int p6), .val (.int (1 : Int32))] [(.int (1 : Int32))])) _
    refine XS.goto X6.here hx rfl (pc0 := 57) (pc' := 61) rfl (hb hby at_57) (by decide) (by decide) ?_
    show Steps p.tables e below (T6.setTop (mkF m 61 #[.val (.int p1), .val (.int p2), .val (.int p3), .val (.int p4), .val (.int p5), .val (.int p6), .val (.int (1 : Int32))] [(.int (1 : Int32))])) _
    exact retN X6 hx (t := .boolean) Bd.returns (by simp) (hb hby at_61) hr
  · show own_Q1 n0 _ T6.heap _
    rw [e6]
    exact ⟨rfl, N6⟩
set_option maxRecDepth 65536 in
set_option maxHeartbeats 40000000 in
theorem rm1_0 (l : Launch) (Z : State) (a0 : Array Value) (hw : ∀ d ∈ tables_1, d.before a0 Z = true) (p1 : Int32) (h0 : Heap) (n0 : Nat) (O0 : Old Z n0 h0) (P1 : ((p1 &&& (2147483647 : Int32)) % (7 : Int32)) = (0 : Int32)) :
    MetFree l (⟨"com/example/key_warden/keywarden/engine/LockModeConflictsWithPinLaw", "pick", "(II)I"⟩ : MethodName) (head1 [Jvm.Cond.code (⟨"com/example/key_warden/keywarden/engine/LockModeConflictsWithPinLaw", "pick", "(II)I"⟩ : MethodName) method_2_code 4 (some .int)] ({ frames := 0, cells := 0, slots := 0, locals := 0 } : Room)) (fun a U => a = #[(.int (0 : Int32)), (.int p1)] ∧ Z.Warmed39 U.vm ∧ U.heap = h0) (fun _ _ _ _ _ => True) (fun _ U o U' => ∃ v L, o = .returned v ∧ own_QP (some (.int (2 : Int32))) n0 h0 v U'.heap L ∧ FrameEnd U o U' L ({ frames := 0, cells := 0, slots := 0, locals := 0 } : Room).cells ({ frames := 0, cells := 0, slots := 0, locals := 0 } : Room).slots) := by
  refine MetFree.of_bodySF (plainFor_of_name pn_4) hisR ?_
  intro p e s m args below meth c s₁ Bd hml0 hP hK
  obtain ⟨rfl, hZ, hh⟩ := hP
  have hx := Bd.exec
  have hby := Bd.bytes
  have hml : c.maxLocals = 4 := hml0
  have hown : s.vm.findClass "com/example/key_warden/keywarden/engine/LockModeConflictsWithPinLaw" = some m.cls := findClass_of_methodNamed Bd.named
  have hnm := (name_of_methodNamed Bd.named Bd.method).1
  have X0 : Stand p l e ({ frames := 0, cells := 0, slots := 0, locals := 0 } : Room) s m #[(.int (0 : Int32)), (.int p1)] below meth c s₁ [] 0 0 := Stand.of_body Bd
  have e0 : s₁.heap = h0 := by rw [← hh, Bd.state]; rfl
  have N0 := Fr.nil n0
  have pre0 : ∀ t, Steps p.tables e below (s₁.setTop (mkF m 0 #[.val (.int (0 : Int32)), .val (.int p1), .unset, .unset] [])) t → Steps p.tables e below (s₁.setTop (entryFrame m #[(.int (0 : Int32)), (.int p1)] 4)) t := fun t k => castTop (ef_1_II m (0 : Int32) p1) k
  obtain ⟨fs, hr, hrun, hended, hW, hsame⟩ := X0.leave (v := (some (.int (2 : Int32)))) (fun h => by rw [Bd.returns] at h; cases h)
  refine ⟨_, _, pre0 _ ?_, hrun, hended, _, _, rfl, ?_, ⟨_, rfl⟩, hW, hsame.mono (by decide) (by decide)⟩
  · show Steps p.tables e below (s₁.setTop (mkF m 0 #[.val (.int (0 : Int32)), .val (.int p1), .unset, .unset] [])) _
    refine XS.iloadN X0.here hx rfl (hb hby d1_0) rfl ?_
    show Steps p.tables e below (s₁.setTop (mkF m 1 #[.val (.int (0 : Int32)), .val (.int p1), .unset, .unset] [(.int p1)])) _
    refine X0.ldcInt hx hown (mvT hZ (hw _ (List.mem_of_getElem? (i := 4) rfl))) (g := (mkF m 1 #[.val (.int (0 : Int32)), .val (.int p1), .unset, .unset] [(.int p1)])) rfl (hb hby d1_1) _ ?_
    show Steps p.tables e below (s₁.setTop (mkF m 3 #[.val (.int (0 : Int32)), .val (.int p1), .unset, .unset] [(.int (2147483647 : Int32)), (.int p1)])) _
    refine XS.iand X0.here hx rfl (hb hby d1_3) rfl ?_
    show Steps p.tables e below (s₁.setTop (mkF m 4 #[.val (.int (0 : Int32)), .val (.int p1), .unset, .unset] [(.int (p1 &&& (2147483647 : Int32)))])) _
    refine XS.istoreN X0.here hx rfl (hb hby d1_4) rfl (l' := #[.val (.int (0 : Int32)), .val (.int p1), .val (.int (p1 &&& (2147483647 : Int32))), .unset]) rfl ?_
    show Steps p.tables e below (s₁.setTop (mkF m 5 #[.val (.int (0 : Int32)), .val (.int p1), .val (.int (p1 &&& (2147483647 : Int32))), .unset] [])) _
    refine XS.iloadN X0.here hx rfl (hb hby d1_5) rfl ?_
    show Steps p.tables e below (s₁.setTop (mkF m 6 #[.val (.int (0 : Int32)), .val (.int p1), .val (.int (p1 &&& (2147483647 : Int32))), .unset] [(.int (0 : Int32))])) _
    refine XS.ifYes X0.here hx rfl (pc0 := 6) (pc' := 23) rfl (hb hby d1_6) rfl (by decide) (by decide) (by decide) ?_
    show Steps p.tables e below (s₁.setTop (mkF m 23 #[.val (.int (0 : Int32)), .val (.int p1), .val (.int (p1 &&& (2147483647 : Int32))), .unset] [])) _
    refine XS.iconst X0.here hx rfl (hb hby d1_23) ?_
    show Steps p.tables e below (s₁.setTop (mkF m 24 #[.val (.int (0 : Int32)), .val (.int p1), .val (.int (p1 &&& (2147483647 : Int32))), .unset] [(.int (2 : Int32))])) _
    refine XS.iloadN X0.here hx rfl (hb hby d1_24) rfl ?_
    show Steps p.tables e below (s₁.setTop (mkF m 25 #[.val (.int (0 : Int32)), .val (.int p1), .val (.int (p1 &&& (2147483647 : Int32))), .unset] [(.int (p1 &&& (2147483647 : Int32))), (.int (2 : Int32))])) _
    refine XS.bipush X0.here hx rfl (hb hby d1_25) ?_
    show Steps p.tables e below (s₁.setTop (mkF m 27 #[.val (.int (0 : Int32)), .val (.int p1), .val (.int (p1 &&& (2147483647 : Int32))), .unset] [(.int (7 : Int32)), (.int (p1 &&& (2147483647 : Int32))), (.int (2 : Int32))])) _
    refine iremM (g := (mkF m 27 #[.val (.int (0 : Int32)), .val (.int p1), .val (.int (p1 &&& (2147483647 : Int32))), .unset] [(.int (7 : Int32)), (.int (p1 &&& (2147483647 : Int32))), (.int (2 : Int32))])) X0 hx rfl (hb hby d1_27) rfl (by decide) ?_
    show Steps p.tables e below (s₁.setTop (mkF m 28 #[.val (.int (0 : Int32)), .val (.int p1), .val (.int (p1 &&& (2147483647 : Int32))), .unset] [(.int ((p1 &&& (2147483647 : Int32)) % (7 : Int32))), (.int (2 : Int32))])) _
    rw [P1]
    show Steps p.tables e below (s₁.setTop (mkF m 28 #[.val (.int (0 : Int32)), .val (.int p1), .val (.int (p1 &&& (2147483647 : Int32))), .unset] [(.int (0 : Int32)), (.int (2 : Int32))])) _
    refine XS.iadd X0.here hx rfl (hb hby d1_28) rfl ?_
    show Steps p.tables e below (s₁.setTop (mkF m 29 #[.val (.int (0 : Int32)), .val (.int p1), .val (.int (p1 &&& (2147483647 : Int32))), .unset] [(.int ((2 : Int32) + (0 : Int32)))])) _
    rw [fo_0]
    show Steps p.tables e below (s₁.setTop (mkF m 29 #[.val (.int (0 : Int32)), .val (.int p1), .val (.int (p1 &&& (2147483647 : Int32))), .unset] [(.int (2 : Int32))])) _
    exact retI X0 hx Bd.returns (hb hby d1_29) hr
  · show own_QP (some (.int (2 : Int32))) n0 h0 _ s₁.heap _
    rw [e0]
    exact ⟨rfl, N0, rfl⟩
set_option maxRecDepth 65536 in
set_option maxHeartbeats 40000000 in
theorem rm2_0 (l : Launch) (Z : State) (a0 : Array Value) (hw : ∀ d ∈ tables_1, d.before a0 Z = true)  (h0 : Heap) (n0 : Nat) (O0 : Old Z n0 h0)  :
    MetFree l (⟨"com/example/key_warden/keywarden/engine/LockModeConflictsWithPinLaw", "row", "(I)I"⟩ : MethodName) (head1 [Jvm.Cond.code (⟨"com/example/key_warden/keywarden/engine/LockModeConflictsWithPinLaw", "row", "(I)I"⟩ : MethodName) method_4_code 1 (some .int)] ({ frames := 0, cells := 0, slots := 0, locals := 0 } : Room)) (fun a U => a = #[(.int (2 : Int32))] ∧ Z.Warmed39 U.vm ∧ U.heap = h0) (fun _ _ _ _ _ => True) (fun _ U o U' => ∃ v L, o = .returned v ∧ own_QP (some (.int (108 : Int32))) n0 h0 v U'.heap L ∧ FrameEnd U o U' L ({ frames := 0, cells := 0, slots := 0, locals := 0 } : Room).cells ({ frames := 0, cells := 0, slots := 0, locals := 0 } : Room).slots) := by
  refine MetFree.of_bodySF (plainFor_of_name pn_4) hisR ?_
  intro p e s m args below meth c s₁ Bd hml0 hP hK
  obtain ⟨rfl, hZ, hh⟩ := hP
  have hx := Bd.exec
  have hby := Bd.bytes
  have hml : c.maxLocals = 1 := hml0
  have hown : s.vm.findClass "com/example/key_warden/keywarden/engine/LockModeConflictsWithPinLaw" = some m.cls := findClass_of_methodNamed Bd.named
  have hnm := (name_of_methodNamed Bd.named Bd.method).1
  have X0 : Stand p l e ({ frames := 0, cells := 0, slots := 0, locals := 0 } : Room) s m #[(.int (2 : Int32))] below meth c s₁ [] 0 0 := Stand.of_body Bd
  have e0 : s₁.heap = h0 := by rw [← hh, Bd.state]; rfl
  have N0 := Fr.nil n0
  have pre0 : ∀ t, Steps p.tables e below (s₁.setTop (mkF m 0 #[.val (.int (2 : Int32))] [])) t → Steps p.tables e below (s₁.setTop (entryFrame m #[(.int (2 : Int32))] 1)) t := fun t k => castTop (ef_2_I m (2 : Int32)) k
  obtain ⟨fs, hr, hrun, hended, hW, hsame⟩ := X0.leave (v := (some (.int (108 : Int32)))) (fun h => by rw [Bd.returns] at h; cases h)
  refine ⟨_, _, pre0 _ ?_, hrun, hended, _, _, rfl, ?_, ⟨_, rfl⟩, hW, hsame.mono (by decide) (by decide)⟩
  · show Steps p.tables e below (s₁.setTop (mkF m 0 #[.val (.int (2 : Int32))] [])) _
    refine XS.iloadN X0.here hx rfl (hb hby d2_0) rfl ?_
    show Steps p.tables e below (s₁.setTop (mkF m 1 #[.val (.int (2 : Int32))] [(.int (2 : Int32))])) _
    refine XS.iconst X0.here hx rfl (hb hby d2_1) ?_
    show Steps p.tables e below (s₁.setTop (mkF m 2 #[.val (.int (2 : Int32))] [(.int (2 : Int32)), (.int (2 : Int32))])) _
    refine XS.icmpYes X0.here hx rfl (pc0 := 2) (pc' := 10) rfl (hb hby d2_2) rfl (by decide) (by decide) (by decide) ?_
    show Steps p.tables e below (s₁.setTop (mkF m 10 #[.val (.int (2 : Int32))] [])) _
    refine XS.bipush X0.here hx rfl (hb hby d2_10) ?_
    show Steps p.tables e below (s₁.setTop (mkF m 12 #[.val (.int (2 : Int32))] [(.int (108 : Int32))])) _
    exact retI X0 hx Bd.returns (hb hby d2_12) hr
  · show own_QP (some (.int (108 : Int32))) n0 h0 _ s₁.heap _
    rw [e0]
    exact ⟨rfl, N0, rfl⟩
set_option maxRecDepth 65536 in
set_option maxHeartbeats 40000000 in
theorem rm3_0 (l : Launch) (Z : State) (a0 : Array Value) (hw : ∀ d ∈ tables_1, d.before a0 Z = true) (w_X : Addr) (h0 : Heap) (n0 : Nat) (O0 : Old Z n0 h0) (P1 : Sta Z Z.heap "com/example/key_warden/keywarden/engine/LockMode" "X" "Lcom/example/key_warden/keywarden/engine/LockMode;" (.ref w_X)) :
    MetFree l (⟨"com/example/key_warden/keywarden/engine/LockModeConflictsWithPinLaw", "mode", "(I)Lcom/example/key_warden/keywarden/engine/LockMode;"⟩ : MethodName) (head1 [Jvm.Cond.code (⟨"com/example/key_warden/keywarden/engine/LockModeConflictsWithPinLaw", "mode", "(I)Lcom/example/key_warden/keywarden/engine/LockMode;"⟩ : MethodName) method_3_code 1 (some (.object "com/example/key_warden/keywarden/engine/LockMode"))] ({ frames := 0, cells := 0, slots := 0, locals := 0 } : Room)) (fun a U => a = #[(.int (2 : Int32))] ∧ Z.Warmed39 U.vm ∧ U.heap = h0) (fun _ _ _ _ _ => True) (fun _ U o U' => ∃ v L, o = .returned v ∧ own_QP (some (.ref w_X)) n0 h0 v U'.heap L ∧ FrameEnd U o U' L ({ frames := 0, cells := 0, slots := 0, locals := 0 } : Room).cells ({ frames := 0, cells := 0, slots := 0, locals := 0 } : Room).slots) := by
  refine MetFree.of_bodySF (plainFor_of_name pn_4) hisR ?_
  intro p e s m args below meth c s₁ Bd hml0 hP hK
  obtain ⟨rfl, hZ, hh⟩ := hP
  have hx := Bd.exec
  have hby := Bd.bytes
  have hml : c.maxLocals = 1 := hml0
  have hown : s.vm.findClass "com/example/key_warden/keywarden/engine/LockModeConflictsWithPinLaw" = some m.cls := findClass_of_methodNamed Bd.named
  have hnm := (name_of_methodNamed Bd.named Bd.method).1
  have X0 : Stand p l e ({ frames := 0, cells := 0, slots := 0, locals := 0 } : Room) s m #[(.int (2 : Int32))] below meth c s₁ [] 0 0 := Stand.of_body Bd
  have e0 : s₁.heap = h0 := by rw [← hh, Bd.state]; rfl
  have N0 := Fr.nil n0
  have pre0 : ∀ t, Steps p.tables e below (s₁.setTop (mkF m 0 #[.val (.int (2 : Int32))] [])) t → Steps p.tables e below (s₁.setTop (entryFrame m #[(.int (2 : Int32))] 1)) t := fun t k => castTop (ef_3_I m (2 : Int32)) k
  obtain ⟨T1, X1, e1, st1⟩ := getS2 X0 hx hZ hown (host := "") (Or.inl (hw _ (List.mem_of_getElem? (i := 11) rfl))) Via.refl e0 (P1.ext O0.2) (g := (mkF m 22 #[.val (.int (2 : Int32))] [])) rfl (hb hby d3_22)
  obtain ⟨fs, hr, hrun, hended, hW, hsame⟩ := X1.leave (v := (some (.ref w_X))) (fun h => by rw [Bd.returns] at h; cases h)
  refine ⟨_, _, pre0 _ ?_, hrun, hended, _, _, rfl, ?_, ⟨_, rfl⟩, hW, hsame.mono (by decide) (by decide)⟩
  · show Steps p.tables e below (s₁.setTop (mkF m 0 #[.val (.int (2 : Int32))] [])) _
    refine XS.iloadN X0.here hx rfl (hb hby d3_0) rfl ?_
    show Steps p.tables e below (s₁.setTop (mkF m 1 #[.val (.int (2 : Int32))] [(.int (2 : Int32))])) _
    refine XS.ifYes X0.here hx rfl (pc0 := 1) (pc' := 8) rfl (hb hby d3_1) rfl (by decide) (by decide) (by decide) ?_
    show Steps p.tables e below (s₁.setTop (mkF m 8 #[.val (.int (2 : Int32))] [])) _
    refine XS.iloadN X0.here hx rfl (hb hby d3_8) rfl ?_
    show Steps p.tables e below (s₁.setTop (mkF m 9 #[.val (.int (2 : Int32))] [(.int (2 : Int32))])) _
    refine XS.iconst X0.here hx rfl (hb hby d3_9) ?_
    show Steps p.tables e below (s₁.setTop (mkF m 10 #[.val (.int (2 : Int32))] [(.int (1 : Int32)), (.int (2 : Int32))])) _
    refine XS.icmpYes X0.here hx rfl (pc0 := 10) (pc' := 17) rfl (hb hby d3_10) rfl (by decide) (by decide) (by decide) ?_
    show Steps p.tables e below (s₁.setTop (mkF m 17 #[.val (.int (2 : Int32))] [])) _
    refine XS.iloadN X0.here hx rfl (hb hby d3_17) rfl ?_
    show Steps p.tables e below (s₁.setTop (mkF m 18 #[.val (.int (2 : Int32))] [(.int (2 : Int32))])) _
    refine XS.iconst X0.here hx rfl (hb hby d3_18) ?_
    show Steps p.tables e below (s₁.setTop (mkF m 19 #[.val (.int (2 : Int32))] [(.int (2 : Int32)), (.int (2 : Int32))])) _
    refine XS.icmpNo X0.here hx rfl (hb hby d3_19) rfl (by decide) ?_
    show Steps p.tables e below (s₁.setTop (mkF m 22 #[.val (.int (2 : Int32))] [])) _
    refine st1 _ ?_
    show Steps p.tables e below (T1.setTop (mkF m 25 #[.val (.int (2 : Int32))] [(.ref w_X)])) _
    exact retA X1 hx Bd.returns rfl rfl rfl (hb hby d3_25) hr
  · show own_QP (some (.ref w_X)) n0 h0 _ T1.heap _
    rw [e1]
    exact ⟨rfl, N0, rfl⟩
set_option maxRecDepth 65536 in
set_option maxHeartbeats 40000000 in
theorem rm4_0 (l : Launch) (Z : State) (a0 : Array Value) (hw : ∀ d ∈ tables_1, d.before a0 Z = true) (r1 : Addr) (h0 : Heap) (n0 : Nat) (O0 : Old Z n0 h0) (P1 : Fld Z h0 r1 "com/example/key_warden/keywarden/engine/LockMode" "intention" "Z" (.int (0 : Int32))) (P2 : Fld Z h0 r1 "com/example/key_warden/keywarden/engine/LockMode" "keyLock" "Z" (.int (0 : Int32))) (P3 : Fld Z h0 r1 "com/example/key_warden/keywarden/engine/LockMode" "insertIntention" "Z" (.int (0 : Int32))) (P4 : Fld Z h0 r1 "com/example/key_warden/keywarden/engine/LockMode" "coversTarget" "Z" (.int (1 : Int32))) (P5 : Fld Z h0 r1 "com/example/key_warden/keywarden/engine/LockMode" "shared" "Z" (.int (0 : Int32))) :
    MetFree l (⟨"com/example/key_warden/keywarden/engine/LockMode", "conflictsWith", "(Lcom/example/key_warden/keywarden/engine/LockMode;)Z"⟩ : MethodName) (head1 [Jvm.Cond.code (⟨"com/example/key_warden/keywarden/engine/LockMode", "conflictsWith", "(Lcom/example/key_warden/keywarden/engine/LockMode;)Z"⟩ : MethodName) prog_26_method_6_code 3 (some .boolean)] ({ frames := 0, cells := 0, slots := 0, locals := 0 } : Room)) (fun a U => a = #[(.ref r1), (.ref r1)] ∧ Z.Warmed39 U.vm ∧ U.heap = h0) (fun _ _ _ _ _ => True) (fun _ U o U' => ∃ v L, o = .returned v ∧ own_QP (some (.int (1 : Int32))) n0 h0 v U'.heap L ∧ FrameEnd U o U' L ({ frames := 0, cells := 0, slots := 0, locals := 0 } : Room).cells ({ frames := 0, cells := 0, slots := 0, locals := 0 } : Room).slots) := by
  refine MetFree.of_bodySF (plainFor_of_name pn_9) hisR ?_
  intro p e s m args below meth c s₁ Bd hml0 hP hK
  obtain ⟨rfl, hZ, hh⟩ := hP
  have hx := Bd.exec
  have hby := Bd.bytes
  have hml : c.maxLocals = 3 := hml0
  have hown : s.vm.findClass "com/example/key_warden/keywarden/engine/LockMode" = some m.cls := findClass_of_methodNamed Bd.named
  have hnm := (name_of_methodNamed Bd.named Bd.method).1
  have X0 : Stand p l e ({ frames := 0, cells := 0, slots := 0, locals := 0 } : Room) s m #[(.ref r1), (.ref r1)] below meth c s₁ [] 0 0 := Stand.of_body Bd
  have e0 : s₁.heap = h0 := by rw [← hh, Bd.state]; rfl
  have N0 := Fr.nil n0
  have pre0 : ∀ t, Steps p.tables e below (s₁.setTop (mkF m 0 #[.val (.ref r1), .val (.ref r1), .unset] [])) t → Steps p.tables e below (s₁.setTop (entryFrame m #[(.ref r1), (.ref r1)] 3)) t := fun t k => castTop (ef_4_RR m r1 r1) k
  obtain ⟨T1, X1, e1, st1⟩ := getF X0 hx hZ hown (host := "") (Or.inl (hw _ (List.mem_of_getElem? (i := 21) rfl))) Via.refl e0 P1 (g := (mkF m 1 #[.val (.ref r1), .val (.ref r1), .unset] [(.ref r1)])) rfl rfl (hb hby d4_1)
  obtain ⟨T2, X2, e2, st2⟩ := getF X1 hx hZ hown (host := "") (Or.inl (hw _ (List.mem_of_getElem? (i := 23) rfl))) Via.refl e1 P2 (g := (mkF m 20 #[.val (.ref r1), .val (.ref r1), .unset] [(.ref r1)])) rfl rfl (hb hby d4_20)
  obtain ⟨T3, X3, e3, st3⟩ := getF X2 hx hZ hown (host := "") (Or.inl (hw _ (List.mem_of_getElem? (i := 23) rfl))) Via.refl e2 P2 (g := (mkF m 27 #[.val (.ref r1), .val (.ref r1), .unset] [(.ref r1)])) rfl rfl (hb hby d4_27)
  obtain ⟨T4, X4, e4, st4⟩ := getF X3 hx hZ hown (host := "") (Or.inl (hw _ (List.mem_of_getElem? (i := 25) rfl))) Via.refl e3 P3 (g := (mkF m 57 #[.val (.ref r1), .val (.ref r1), .unset] [(.ref r1)])) rfl rfl (hb hby d4_57)
  obtain ⟨T5, X5, e5, st5⟩ := getF X4 hx hZ hown (host := "") (Or.inl (hw _ (List.mem_of_getElem? (i := 25) rfl))) Via.refl e4 P3 (g := (mkF m 87 #[.val (.ref r1), .val (.ref r1), .unset] [(.ref r1)])) rfl rfl (hb hby d4_87)
  obtain ⟨T6, X6, e6, st6⟩ := getF X5 hx hZ hown (host := "") (Or.inl (hw _ (List.mem_of_getElem? (i := 27) rfl))) Via.refl e5 P4 (g := (mkF m 99 #[.val (.ref r1), .val (.ref r1), .unset] [(.ref r1)])) rfl rfl (hb hby d4_99)
  obtain ⟨T7, X7, e7, st7⟩ := getF X6 hx hZ hown (host := "") (Or.inl (hw _ (List.mem_of_getElem? (i := 27) rfl))) Via.refl e6 P4 (g := (mkF m 106 #[.val (.ref r1), .val (.ref r1), .unset] [(.ref r1)])) rfl rfl (hb hby d4_106)
  obtain ⟨T8, X8, e8, st8⟩ := getF X7 hx hZ hown (host := "") (Or.inl (hw _ (List.mem_of_getElem? (i := 29) rfl))) Via.refl e7 P5 (g := (mkF m 113 #[.val (.ref r1), .val (.ref r1), .unset] [(.ref r1)])) rfl rfl (hb hby d4_113)
  obtain ⟨fs, hr, hrun, hended, hW, hsame⟩ := X8.leave (v := (some (.int (1 : Int32)))) (fun h => by rw [Bd.returns] at h; cases h)
  refine ⟨_, _, pre0 _ ?_, hrun, hended, _, _, rfl, ?_, ⟨_, rfl⟩, hW, hsame.mono (by decide) (by decide)⟩
  · show Steps p.tables e below (s₁.setTop (mkF m 0 #[.val (.ref r1), .val (.ref r1), .unset] [])) _
    refine XS.aloadN X0.here hx rfl (hb hby d4_0) rfl rfl ?_
    show Steps p.tables e below (s₁.setTop (mkF m 1 #[.val (.ref r1), .val (.ref r1), .unset] [(.ref r1)])) _
    refine st1 _ ?_
    show Steps p.tables e below (T1.setTop (mkF m 4 #[.val (.ref r1), .val (.ref r1), .unset] [(.int (0 : Int32))])) _
    refine XS.ifYes X1.here hx rfl (pc0 := 4) (pc' := 19) rfl (hb hby d4_4) rfl (by decide) (by decide) (by decide) ?_
    show Steps p.tables e below (T1.setTop (mkF m 19 #[.val (.ref r1), .val (.ref r1), .unset] [])) _
    refine XS.aloadN X1.here hx rfl (hb hby d4_19) rfl rfl ?_
    show Steps p.tables e below (T1.setTop (mkF m 20 #[.val (.ref r1), .val (.ref r1), .unset] [(.ref r1)])) _
    refine st2 _ ?_
    show Steps p.tables e below (T2.setTop (mkF m 23 #[.val (.ref r1), .val (.ref r1), .unset] [(.int (0 : Int32))])) _
    refine XS.ifNo X2.here hx rfl (hb hby d4_23) rfl (by decide) ?_
    show Steps p.tables e below (T2.setTop (mkF m 26 #[.val (.ref r1), .val (.ref r1), .unset] [])) _
    refine XS.aloadN X2.here hx rfl (hb hby d4_26) rfl rfl ?_
    show Steps p.tables e below (T2.setTop (mkF m 27 #[.val (.ref r1), .val (.ref r1), .unset] [(.ref r1)])) _
    refine st3 _ ?_
    show Steps p.tables e below (T3.setTop (mkF m 30 #[.val (.ref r1), .val (.ref r1), .unset] [(.int (0 : Int32))])) _
    refine XS.ifYes X3.here hx rfl (pc0 := 30) (pc' := 56) rfl (hb hby d4_30) rfl (by decide) (by decide) (by decide) ?_
    show Steps p.tables e below (T3.setTop (mkF m 56 #[.val (.ref r1), .val (.ref r1), .unset] [])) _
    refine XS.aloadN X3.here hx rfl (hb hby d4_56) rfl rfl ?_
    show Steps p.tables e below (T3.setTop (mkF m 57 #[.val (.ref r1), .val (.ref r1), .unset] [(.ref r1)])) _
    refine st4 _ ?_
    show Steps p.tables e below (T4.setTop (mkF m 60 #[.val (.ref r1), .val (.ref r1), .unset] [(.int (0 : Int32))])) _
    refine XS.ifYes X4.here hx rfl (pc0 := 60) (pc' := 86) rfl (hb hby d4_60) rfl (by decide) (by decide) (by decide) ?_
    show Steps p.tables e below (T4.setTop (mkF m 86 #[.val (.ref r1), .val (.ref r1), .unset] [])) _
    refine XS.aloadN X4.here hx rfl (hb hby d4_86) rfl rfl ?_
    show Steps p.tables e below (T4.setTop (mkF m 87 #[.val (.ref r1), .val (.ref r1), .unset] [(.ref r1)])) _
    refine st5 _ ?_
    show Steps p.tables e below (T5.setTop (mkF m 90 #[.val (.ref r1), .val (.ref r1), .unset] [(.int (0 : Int32))])) _
    refine XS.ifYes X5.here hx rfl (pc0 := 90) (pc' := 98) rfl (hb hby d4_90) rfl (by decide) (by decide) (by decide) ?_
    show Steps p.tables e below (T5.setTop (mkF m 98 #[.val (.ref r1), .val (.ref r1), .unset] [])) _
    refine XS.aloadN X5.here hx rfl (hb hby d4_98) rfl rfl ?_
    show Steps p.tables e below (T5.setTop (mkF m 99 #[.val (.ref r1), .val (.ref r1), .unset] [(.ref r1)])) _
    refine st6 _ ?_
    show Steps p.tables e below (T6.setTop (mkF m 102 #[.val (.ref r1), .val (.ref r1), .unset] [(.int (1 : Int32))])) _
    refine XS.ifNo X6.here hx rfl (hb hby d4_102) rfl (by decide) ?_
    show Steps p.tables e below (T6.setTop (mkF m 105 #[.val (.ref r1), .val (.ref r1), .unset] [])) _
    refine XS.aloadN X6.here hx rfl (hb hby d4_105) rfl rfl ?_
    show Steps p.tables e below (T6.setTop (mkF m 106 #[.val (.ref r1), .val (.ref r1), .unset] [(.ref r1)])) _
    refine st7 _ ?_
    show Steps p.tables e below (T7.setTop (mkF m 109 #[.val (.ref r1), .val (.ref r1), .unset] [(.int (1 : Int32))])) _
    refine XS.ifNo X7.here hx rfl (hb hby d4_109) rfl (by decide) ?_
    show Steps p.tables e below (T7.setTop (mkF m 112 #[.val (.ref r1), .val (.ref r1), .unset] [])) _
    refine XS.aloadN X7.here hx rfl (hb hby d4_112) rfl rfl ?_
    show Steps p.tables e below (T7.setTop (mkF m 113 #[.val (.ref r1), .val (.ref r1), .unset] [(.ref r1)])) _
    refine st8 _ ?_
    show Steps p.tables e below (T8.setTop (mkF m 116 #[.val (.ref r1), .val (.ref r1), .unset] [(.int (0 : Int32))])) _
    refine XS.ifYes X8.here hx rfl (pc0 := 116) (pc' := 126) rfl (hb hby d4_116) rfl (by decide) (by decide) (by decide) ?_
    show Steps p.tables e below (T8.setTop (mkF m 126 #[.val (.ref r1), .val (.ref r1), .unset] [])) _
    refine XS.iconst X8.here hx rfl (hb hby d4_126) ?_
    show Steps p.tables e below (T8.setTop (mkF m 127 #[.val (.ref r1), .val (.ref r1), .unset] [(.int (1 : Int32))])) _
    refine XS.goto X8.here hx rfl (pc0 := 127) (pc' := 131) rfl (hb hby d4_127) (by decide) (by decide) ?_
    show Steps p.tables e below (T8.setTop (mkF m 131 #[.val (.ref r1), .val (.ref r1), .unset] [(.int (1 : Int32))])) _
    refine XS.istoreN X8.here hx rfl (hb hby d4_131) rfl (l' := #[.val (.ref r1), .val (.ref r1), .val (.int (1 : Int32))]) rfl ?_
    show Steps p.tables e below (T8.setTop (mkF m 132 #[.val (.ref r1), .val (.ref r1), .val (.int (1 : Int32))] [])) _
    refine XS.iloadN X8.here hx rfl (hb hby d4_132) rfl ?_
    show Steps p.tables e below (T8.setTop (mkF m 133 #[.val (.ref r1), .val (.ref r1), .val (.int (1 : Int32))] [(.int (1 : Int32))])) _
    exact retN X8 hx (t := .boolean) Bd.returns (by simp) (hb hby d4_133) hr
  · show own_QP (some (.int (1 : Int32))) n0 h0 _ T8.heap _
    rw [e8]
    exact ⟨rfl, N0, rfl⟩
set_option maxRecDepth 65536 in
set_option maxHeartbeats 40000000 in
theorem rm1_1 (l : Launch) (Z : State) (a0 : Array Value) (hw : ∀ d ∈ tables_1, d.before a0 Z = true) (p1 : Int32) (h0 : Heap) (n0 : Nat) (O0 : Old Z n0 h0) (P1 : ((p1 &&& (2147483647 : Int32)) % (7 : Int32)) = (1 : Int32)) :
    MetFree l (⟨"com/example/key_warden/keywarden/engine/LockModeConflictsWithPinLaw", "pick", "(II)I"⟩ : MethodName) (head1 [Jvm.Cond.code (⟨"com/example/key_warden/keywarden/engine/LockModeConflictsWithPinLaw", "pick", "(II)I"⟩ : MethodName) method_2_code 4 (some .int)] ({ frames := 0, cells := 0, slots := 0, locals := 0 } : Room)) (fun a U => a = #[(.int (0 : Int32)), (.int p1)] ∧ Z.Warmed39 U.vm ∧ U.heap = h0) (fun _ _ _ _ _ => True) (fun _ U o U' => ∃ v L, o = .returned v ∧ own_QP (some (.int (3 : Int32))) n0 h0 v U'.heap L ∧ FrameEnd U o U' L ({ frames := 0, cells := 0, slots := 0, locals := 0 } : Room).cells ({ frames := 0, cells := 0, slots := 0, locals := 0 } : Room).slots) := by
  refine MetFree.of_bodySF (plainFor_of_name pn_4) hisR ?_
  intro p e s m args below meth c s₁ Bd hml0 hP hK
  obtain ⟨rfl, hZ, hh⟩ := hP
  have hx := Bd.exec
  have hby := Bd.bytes
  have hml : c.maxLocals = 4 := hml0
  have hown : s.vm.findClass "com/example/key_warden/keywarden/engine/LockModeConflictsWithPinLaw" = some m.cls := findClass_of_methodNamed Bd.named
  have hnm := (name_of_methodNamed Bd.named Bd.method).1
  have X0 : Stand p l e ({ frames := 0, cells := 0, slots := 0, locals := 0 } : Room) s m #[(.int (0 : Int32)), (.int p1)] below meth c s₁ [] 0 0 := Stand.of_body Bd
  have e0 : s₁.heap = h0 := by rw [← hh, Bd.state]; rfl
  have N0 := Fr.nil n0
  have pre0 : ∀ t, Steps p.tables e below (s₁.setTop (mkF m 0 #[.val (.int (0 : Int32)), .val (.int p1), .unset, .unset] [])) t → Steps p.tables e below (s₁.setTop (entryFrame m #[(.int (0 : Int32)), (.int p1)] 4)) t := fun t k => castTop (ef_1_II m (0 : Int32) p1) k
  obtain ⟨fs, hr, hrun, hended, hW, hsame⟩ := X0.leave (v := (some (.int (3 : Int32)))) (fun h => by rw [Bd.returns] at h; cases h)
  refine ⟨_, _, pre0 _ ?_, hrun, hended, _, _, rfl, ?_, ⟨_, rfl⟩, hW, hsame.mono (by decide) (by decide)⟩
  · show Steps p.tables e below (s₁.setTop (mkF m 0 #[.val (.int (0 : Int32)), .val (.int p1), .unset, .unset] [])) _
    refine XS.iloadN X0.here hx rfl (hb hby d1_0) rfl ?_
    show Steps p.tables e below (s₁.setTop (mkF m 1 #[.val (.int (0 : Int32)), .val (.int p1), .unset, .unset] [(.int p1)])) _
    refine X0.ldcInt hx hown (mvT hZ (hw _ (List.mem_of_getElem? (i := 4) rfl))) (g := (mkF m 1 #[.val (.int (0 : Int32)), .val (.int p1), .unset, .unset] [(.int p1)])) rfl (hb hby d1_1) _ ?_
    show Steps p.tables e below (s₁.setTop (mkF m 3 #[.val (.int (0 : Int32)), .val (.int p1), .unset, .unset] [(.int (2147483647 : Int32)), (.int p1)])) _
    refine XS.iand X0.here hx rfl (hb hby d1_3) rfl ?_
    show Steps p.tables e below (s₁.setTop (mkF m 4 #[.val (.int (0 : Int32)), .val (.int p1), .unset, .unset] [(.int (p1 &&& (2147483647 : Int32)))])) _
    refine XS.istoreN X0.here hx rfl (hb hby d1_4) rfl (l' := #[.val (.int (0 : Int32)), .val (.int p1), .val (.int (p1 &&& (2147483647 : Int32))), .unset]) rfl ?_
    show Steps p.tables e below (s₁.setTop (mkF m 5 #[.val (.int (0 : Int32)), .val (.int p1), .val (.int (p1 &&& (2147483647 : Int32))), .unset] [])) _
    refine XS.iloadN X0.here hx rfl (hb hby d1_5) rfl ?_
    show Steps p.tables e below (s₁.setTop (mkF m 6 #[.val (.int (0 : Int32)), .val (.int p1), .val (.int (p1 &&& (2147483647 : Int32))), .unset] [(.int (0 : Int32))])) _
    refine XS.ifYes X0.here hx rfl (pc0 := 6) (pc' := 23) rfl (hb hby d1_6) rfl (by decide) (by decide) (by decide) ?_
    show Steps p.tables e below (s₁.setTop (mkF m 23 #[.val (.int (0 : Int32)), .val (.int p1), .val (.int (p1 &&& (2147483647 : Int32))), .unset] [])) _
    refine XS.iconst X0.here hx rfl (hb hby d1_23) ?_
    show Steps p.tables e below (s₁.setTop (mkF m 24 #[.val (.int (0 : Int32)), .val (.int p1), .val (.int (p1 &&& (2147483647 : Int32))), .unset] [(.int (2 : Int32))])) _
    refine XS.iloadN X0.here hx rfl (hb hby d1_24) rfl ?_
    show Steps p.tables e below (s₁.setTop (mkF m 25 #[.val (.int (0 : Int32)), .val (.int p1), .val (.int (p1 &&& (2147483647 : Int32))), .unset] [(.int (p1 &&& (2147483647 : Int32))), (.int (2 : Int32))])) _
    refine XS.bipush X0.here hx rfl (hb hby d1_25) ?_
    show Steps p.tables e below (s₁.setTop (mkF m 27 #[.val (.int (0 : Int32)), .val (.int p1), .val (.int (p1 &&& (2147483647 : Int32))), .unset] [(.int (7 : Int32)), (.int (p1 &&& (2147483647 : Int32))), (.int (2 : Int32))])) _
    refine iremM (g := (mkF m 27 #[.val (.int (0 : Int32)), .val (.int p1), .val (.int (p1 &&& (2147483647 : Int32))), .unset] [(.int (7 : Int32)), (.int (p1 &&& (2147483647 : Int32))), (.int (2 : Int32))])) X0 hx rfl (hb hby d1_27) rfl (by decide) ?_
    show Steps p.tables e below (s₁.setTop (mkF m 28 #[.val (.int (0 : Int32)), .val (.int p1), .val (.int (p1 &&& (2147483647 : Int32))), .unset] [(.int ((p1 &&& (2147483647 : Int32)) % (7 : Int32))), (.int (2 : Int32))])) _
    rw [P1]
    show Steps p.tables e below (s₁.setTop (mkF m 28 #[.val (.int (0 : Int32)), .val (.int p1), .val (.int (p1 &&& (2147483647 : Int32))), .unset] [(.int (1 : Int32)), (.int (2 : Int32))])) _
    refine XS.iadd X0.here hx rfl (hb hby d1_28) rfl ?_
    show Steps p.tables e below (s₁.setTop (mkF m 29 #[.val (.int (0 : Int32)), .val (.int p1), .val (.int (p1 &&& (2147483647 : Int32))), .unset] [(.int ((2 : Int32) + (1 : Int32)))])) _
    rw [fo_1]
    show Steps p.tables e below (s₁.setTop (mkF m 29 #[.val (.int (0 : Int32)), .val (.int p1), .val (.int (p1 &&& (2147483647 : Int32))), .unset] [(.int (3 : Int32))])) _
    exact retI X0 hx Bd.returns (hb hby d1_29) hr
  · show own_QP (some (.int (3 : Int32))) n0 h0 _ s₁.heap _
    rw [e0]
    exact ⟨rfl, N0, rfl⟩
set_option maxRecDepth 65536 in
set_option maxHeartbeats 40000000 in
theorem rm3_1 (l : Launch) (Z : State) (a0 : Array Value) (hw : ∀ d ∈ tables_1, d.before a0 Z = true) (w_X_REC_NOT_GAP : Addr) (h0 : Heap) (n0 : Nat) (O0 : Old Z n0 h0) (P1 : Sta Z Z.heap "com/example/key_warden/keywarden/engine/LockMode" "X_REC_NOT_GAP" "Lcom/example/key_warden/keywarden/engine/LockMode;" (.ref w_X_REC_NOT_GAP)) :
    MetFree l (⟨"com/example/key_warden/keywarden/engine/LockModeConflictsWithPinLaw", "mode", "(I)Lcom/example/key_warden/keywarden/engine/LockMode;"⟩ : MethodName) (head1 [Jvm.Cond.code (⟨"com/example/key_warden/keywarden/engine/LockModeConflictsWithPinLaw", "mode", "(I)Lcom/example/key_warden/keywarden/engine/LockMode;"⟩ : MethodName) method_3_code 1 (some (.object "com/example/key_warden/keywarden/engine/LockMode"))] ({ frames := 0, cells := 0, slots := 0, locals := 0 } : Room)) (fun a U => a = #[(.int (3 : Int32))] ∧ Z.Warmed39 U.vm ∧ U.heap = h0) (fun _ _ _ _ _ => True) (fun _ U o U' => ∃ v L, o = .returned v ∧ own_QP (some (.ref w_X_REC_NOT_GAP)) n0 h0 v U'.heap L ∧ FrameEnd U o U' L ({ frames := 0, cells := 0, slots := 0, locals := 0 } : Room).cells ({ frames := 0, cells := 0, slots := 0, locals := 0 } : Room).slots) := by
  refine MetFree.of_bodySF (plainFor_of_name pn_4) hisR ?_
  intro p e s m args below meth c s₁ Bd hml0 hP hK
  obtain ⟨rfl, hZ, hh⟩ := hP
  have hx := Bd.exec
  have hby := Bd.bytes
  have hml : c.maxLocals = 1 := hml0
  have hown : s.vm.findClass "com/example/key_warden/keywarden/engine/LockModeConflictsWithPinLaw" = some m.cls := findClass_of_methodNamed Bd.named
  have hnm := (name_of_methodNamed Bd.named Bd.method).1
  have X0 : Stand p l e ({ frames := 0, cells := 0, slots := 0, locals := 0 } : Room) s m #[(.int (3 : Int32))] below meth c s₁ [] 0 0 := Stand.of_body Bd
  have e0 : s₁.heap = h0 := by rw [← hh, Bd.state]; rfl
  have N0 := Fr.nil n0
  have pre0 : ∀ t, Steps p.tables e below (s₁.setTop (mkF m 0 #[.val (.int (3 : Int32))] [])) t → Steps p.tables e below (s₁.setTop (entryFrame m #[(.int (3 : Int32))] 1)) t := fun t k => castTop (ef_3_I m (3 : Int32)) k
  obtain ⟨T1, X1, e1, st1⟩ := getS2 X0 hx hZ hown (host := "") (Or.inl (hw _ (List.mem_of_getElem? (i := 37) rfl))) Via.refl e0 (P1.ext O0.2) (g := (mkF m 31 #[.val (.int (3 : Int32))] [])) rfl (hb hby d3_31)
  obtain ⟨fs, hr, hrun, hended, hW, hsame⟩ := X1.leave (v := (some (.ref w_X_REC_NOT_GAP))) (fun h => by rw [Bd.returns] at h; cases h)
  refine ⟨_, _, pre0 _ ?_, hrun, hended, _, _, rfl, ?_, ⟨_, rfl⟩, hW, hsame.mono (by decide) (by decide)⟩
  · show Steps p.tables e below (s₁.setTop (mkF m 0 #[.val (.int (3 : Int32))] [])) _
    refine XS.iloadN X0.here hx rfl (hb hby d3_0) rfl ?_
    show Steps p.tables e below (s₁.setTop (mkF m 1 #[.val (.int (3 : Int32))] [(.int (3 : Int32))])) _
    refine XS.ifYes X0.here hx rfl (pc0 := 1) (pc' := 8) rfl (hb hby d3_1) rfl (by decide) (by decide) (by decide) ?_
    show Steps p.tables e below (s₁.setTop (mkF m 8 #[.val (.int (3 : Int32))] [])) _
    refine XS.iloadN X0.here hx rfl (hb hby d3_8) rfl ?_
    show Steps p.tables e below (s₁.setTop (mkF m 9 #[.val (.int (3 : Int32))] [(.int (3 : Int32))])) _
    refine XS.iconst X0.here hx rfl (hb hby d3_9) ?_
    show Steps p.tables e below (s₁.setTop (mkF m 10 #[.val (.int (3 : Int32))] [(.int (1 : Int32)), (.int (3 : Int32))])) _
    refine XS.icmpYes X0.here hx rfl (pc0 := 10) (pc' := 17) rfl (hb hby d3_10) rfl (by decide) (by decide) (by decide) ?_
    show Steps p.tables e below (s₁.setTop (mkF m 17 #[.val (.int (3 : Int32))] [])) _
    refine XS.iloadN X0.here hx rfl (hb hby d3_17) rfl ?_
    show Steps p.tables e below (s₁.setTop (mkF m 18 #[.val (.int (3 : Int32))] [(.int (3 : Int32))])) _
    refine XS.iconst X0.here hx rfl (hb hby d3_18) ?_
    show Steps p.tables e below (s₁.setTop (mkF m 19 #[.val (.int (3 : Int32))] [(.int (2 : Int32)), (.int (3 : Int32))])) _
    refine XS.icmpYes X0.here hx rfl (pc0 := 19) (pc' := 26) rfl (hb hby d3_19) rfl (by decide) (by decide) (by decide) ?_
    show Steps p.tables e below (s₁.setTop (mkF m 26 #[.val (.int (3 : Int32))] [])) _
    refine XS.iloadN X0.here hx rfl (hb hby d3_26) rfl ?_
    show Steps p.tables e below (s₁.setTop (mkF m 27 #[.val (.int (3 : Int32))] [(.int (3 : Int32))])) _
    refine XS.iconst X0.here hx rfl (hb hby d3_27) ?_
    show Steps p.tables e below (s₁.setTop (mkF m 28 #[.val (.int (3 : Int32))] [(.int (3 : Int32)), (.int (3 : Int32))])) _
    refine XS.icmpNo X0.here hx rfl (hb hby d3_28) rfl (by decide) ?_
    show Steps p.tables e below (s₁.setTop (mkF m 31 #[.val (.int (3 : Int32))] [])) _
    refine st1 _ ?_
    show Steps p.tables e below (T1.setTop (mkF m 34 #[.val (.int (3 : Int32))] [(.ref w_X_REC_NOT_GAP)])) _
    exact retA X1 hx Bd.returns rfl rfl rfl (hb hby d3_34) hr
  · show own_QP (some (.ref w_X_REC_NOT_GAP)) n0 h0 _ T1.heap _
    rw [e1]
    exact ⟨rfl, N0, rfl⟩
set_option maxRecDepth 65536 in
set_option maxHeartbeats 40000000 in
theorem rm4_1 (l : Launch) (Z : State) (a0 : Array Value) (hw : ∀ d ∈ tables_1, d.before a0 Z = true) (r1 : Addr) (r2 : Addr) (h0 : Heap) (n0 : Nat) (O0 : Old Z n0 h0) (P1 : Fld Z h0 r1 "com/example/key_warden/keywarden/engine/LockMode" "intention" "Z" (.int (0 : Int32))) (P2 : Fld Z h0 r1 "com/example/key_warden/keywarden/engine/LockMode" "keyLock" "Z" (.int (0 : Int32))) (P3 : Fld Z h0 r2 "com/example/key_warden/keywarden/engine/LockMode" "keyLock" "Z" (.int (0 : Int32))) (P4 : Fld Z h0 r1 "com/example/key_warden/keywarden/engine/LockMode" "insertIntention" "Z" (.int (0 : Int32))) (P5 : Fld Z h0 r2 "com/example/key_warden/keywarden/engine/LockMode" "insertIntention" "Z" (.int (0 : Int32))) (P6 : Fld Z h0 r1 "com/example/key_warden/keywarden/engine/LockMode" "coversTarget" "Z" (.int (1 : Int32))) (P7 : Fld Z h0 r2 "com/example/key_warden/keywarden/engine/LockMode" "coversTarget" "Z" (.int (1 : Int32))) (P8 : Fld Z h0 r1 "com/example/key_warden/keywarden/engine/LockMode" "shared" "Z" (.int (0 : Int32))) :
    MetFree l (⟨"com/example/key_warden/keywarden/engine/LockMode", "conflictsWith", "(Lcom/example/key_warden/keywarden/engine/LockMode;)Z"⟩ : MethodName) (head1 [Jvm.Cond.code (⟨"com/example/key_warden/keywarden/engine/LockMode", "conflictsWith", "(Lcom/example/key_warden/keywarden/engine/LockMode;)Z"⟩ : MethodName) prog_26_method_6_code 3 (some .boolean)] ({ frames := 0, cells := 0, slots := 0, locals := 0 } : Room)) (fun a U => a = #[(.ref r1), (.ref r2)] ∧ Z.Warmed39 U.vm ∧ U.heap = h0) (fun _ _ _ _ _ => True) (fun _ U o U' => ∃ v L, o = .returned v ∧ own_QP (some (.int (1 : Int32))) n0 h0 v U'.heap L ∧ FrameEnd U o U' L ({ frames := 0, cells := 0, slots := 0, locals := 0 } : Room).cells ({ frames := 0, cells := 0, slots := 0, locals := 0 } : Room).slots) := by
  refine MetFree.of_bodySF (plainFor_of_name pn_9) hisR ?_
  intro p e s m args below meth c s₁ Bd hml0 hP hK
  obtain ⟨rfl, hZ, hh⟩ := hP
  have hx := Bd.exec
  have hby := Bd.bytes
  have hml : c.maxLocals = 3 := hml0
  have hown : s.vm.findClass "com/example/key_warden/keywarden/engine/LockMode" = some m.cls := findClass_of_methodNamed Bd.named
  have hnm := (name_of_methodNamed Bd.named Bd.method).1
  have X0 : Stand p l e ({ frames := 0, cells := 0, slots := 0, locals := 0 } : Room) s m #[(.ref r1), (.ref r2)] below meth c s₁ [] 0 0 := Stand.of_body Bd
  have e0 : s₁.heap = h0 := by rw [← hh, Bd.state]; rfl
  have N0 := Fr.nil n0
  have pre0 : ∀ t, Steps p.tables e below (s₁.setTop (mkF m 0 #[.val (.ref r1), .val (.ref r2), .unset] [])) t → Steps p.tables e below (s₁.setTop (entryFrame m #[(.ref r1), (.ref r2)] 3)) t := fun t k => castTop (ef_4_RR m r1 r2) k
  obtain ⟨T1, X1, e1, st1⟩ := getF X0 hx hZ hown (host := "") (Or.inl (hw _ (List.mem_of_getElem? (i := 21) rfl))) Via.refl e0 P1 (g := (mkF m 1 #[.val (.ref r1), .val (.ref r2), .unset] [(.ref r1)])) rfl rfl (hb hby d4_1)
  obtain ⟨T2, X2, e2, st2⟩ := getF X1 hx hZ hown (host := "") (Or.inl (hw _ (List.mem_of_getElem? (i := 23) rfl))) Via.refl e1 P2 (g := (mkF m 20 #[.val (.ref r1), .val (.ref r2), .unset] [(.ref r1)])) rfl rfl (hb hby d4_20)
  obtain ⟨T3, X3, e3, st3⟩ := getF X2 hx hZ hown (host := "") (Or.inl (hw _ (List.mem_of_getElem? (i := 23) rfl))) Via.refl e2 P3 (g := (mkF m 27 #[.val (.ref r1), .val (.ref r2), .unset] [(.ref r2)])) rfl rfl (hb hby d4_27)
  obtain ⟨T4, X4, e4, st4⟩ := getF X3 hx hZ hown (host := "") (Or.inl (hw _ (List.mem_of_getElem? (i := 25) rfl))) Via.refl e3 P4 (g := (mkF m 57 #[.val (.ref r1), .val (.ref r2), .unset] [(.ref r1)])) rfl rfl (hb hby d4_57)
  obtain ⟨T5, X5, e5, st5⟩ := getF X4 hx hZ hown (host := "") (Or.inl (hw _ (List.mem_of_getElem? (i := 25) rfl))) Via.refl e4 P5 (g := (mkF m 87 #[.val (.ref r1), .val (.ref r2), .unset] [(.ref r2)])) rfl rfl (hb hby d4_87)
  obtain ⟨T6, X6, e6, st6⟩ := getF X5 hx hZ hown (host := "") (Or.inl (hw _ (List.mem_of_getElem? (i := 27) rfl))) Via.refl e5 P6 (g := (mkF m 99 #[.val (.ref r1), .val (.ref r2), .unset] [(.ref r1)])) rfl rfl (hb hby d4_99)
  obtain ⟨T7, X7, e7, st7⟩ := getF X6 hx hZ hown (host := "") (Or.inl (hw _ (List.mem_of_getElem? (i := 27) rfl))) Via.refl e6 P7 (g := (mkF m 106 #[.val (.ref r1), .val (.ref r2), .unset] [(.ref r2)])) rfl rfl (hb hby d4_106)
  obtain ⟨T8, X8, e8, st8⟩ := getF X7 hx hZ hown (host := "") (Or.inl (hw _ (List.mem_of_getElem? (i := 29) rfl))) Via.refl e7 P8 (g := (mkF m 113 #[.val (.ref r1), .val (.ref r2), .unset] [(.ref r1)])) rfl rfl (hb hby d4_113)
  obtain ⟨fs, hr, hrun, hended, hW, hsame⟩ := X8.leave (v := (some (.int (1 : Int32)))) (fun h => by rw [Bd.returns] at h; cases h)
  refine ⟨_, _, pre0 _ ?_, hrun, hended, _, _, rfl, ?_, ⟨_, rfl⟩, hW, hsame.mono (by decide) (by decide)⟩
  · show Steps p.tables e below (s₁.setTop (mkF m 0 #[.val (.ref r1), .val (.ref r2), .unset] [])) _
    refine XS.aloadN X0.here hx rfl (hb hby d4_0) rfl rfl ?_
    show Steps p.tables e below (s₁.setTop (mkF m 1 #[.val (.ref r1), .val (.ref r2), .unset] [(.ref r1)])) _
    refine st1 _ ?_
    show Steps p.tables e below (T1.setTop (mkF m 4 #[.val (.ref r1), .val (.ref r2), .unset] [(.int (0 : Int32))])) _
    refine XS.ifYes X1.here hx rfl (pc0 := 4) (pc' := 19) rfl (hb hby d4_4) rfl (by decide) (by decide) (by decide) ?_
    show Steps p.tables e below (T1.setTop (mkF m 19 #[.val (.ref r1), .val (.ref r2), .unset] [])) _
    refine XS.aloadN X1.here hx rfl (hb hby d4_19) rfl rfl ?_
    show Steps p.tables e below (T1.setTop (mkF m 20 #[.val (.ref r1), .val (.ref r2), .unset] [(.ref r1)])) _
    refine st2 _ ?_
    show Steps p.tables e below (T2.setTop (mkF m 23 #[.val (.ref r1), .val (.ref r2), .unset] [(.int (0 : Int32))])) _
    refine XS.ifNo X2.here hx rfl (hb hby d4_23) rfl (by decide) ?_
    show Steps p.tables e below (T2.setTop (mkF m 26 #[.val (.ref r1), .val (.ref r2), .unset] [])) _
    refine XS.aloadN X2.here hx rfl (hb hby d4_26) rfl rfl ?_
    show Steps p.tables e below (T2.setTop (mkF m 27 #[.val (.ref r1), .val (.ref r2), .unset] [(.ref r2)])) _
    refine st3 _ ?_
    show Steps p.tables e below (T3.setTop (mkF m 30 #[.val (.ref r1), .val (.ref r2), .unset] [(.int (0 : Int32))])) _
    refine XS.ifYes X3.here hx rfl (pc0 := 30) (pc' := 56) rfl (hb hby d4_30) rfl (by decide) (by decide) (by decide) ?_
    show Steps p.tables e below (T3.setTop (mkF m 56 #[.val (.ref r1), .val (.ref r2), .unset] [])) _
    refine XS.aloadN X3.here hx rfl (hb hby d4_56) rfl rfl ?_
    show Steps p.tables e below (T3.setTop (mkF m 57 #[.val (.ref r1), .val (.ref r2), .unset] [(.ref r1)])) _
    refine st4 _ ?_
    show Steps p.tables e below (T4.setTop (mkF m 60 #[.val (.ref r1), .val (.ref r2), .unset] [(.int (0 : Int32))])) _
    refine XS.ifYes X4.here hx rfl (pc0 := 60) (pc' := 86) rfl (hb hby d4_60) rfl (by decide) (by decide) (by decide) ?_
    show Steps p.tables e below (T4.setTop (mkF m 86 #[.val (.ref r1), .val (.ref r2), .unset] [])) _
    refine XS.aloadN X4.here hx rfl (hb hby d4_86) rfl rfl ?_
    show Steps p.tables e below (T4.setTop (mkF m 87 #[.val (.ref r1), .val (.ref r2), .unset] [(.ref r2)])) _
    refine st5 _ ?_
    show Steps p.tables e below (T5.setTop (mkF m 90 #[.val (.ref r1), .val (.ref r2), .unset] [(.int (0 : Int32))])) _
    refine XS.ifYes X5.here hx rfl (pc0 := 90) (pc' := 98) rfl (hb hby d4_90) rfl (by decide) (by decide) (by decide) ?_
    show Steps p.tables e below (T5.setTop (mkF m 98 #[.val (.ref r1), .val (.ref r2), .unset] [])) _
    refine XS.aloadN X5.here hx rfl (hb hby d4_98) rfl rfl ?_
    show Steps p.tables e below (T5.setTop (mkF m 99 #[.val (.ref r1), .val (.ref r2), .unset] [(.ref r1)])) _
    refine st6 _ ?_
    show Steps p.tables e below (T6.setTop (mkF m 102 #[.val (.ref r1), .val (.ref r2), .unset] [(.int (1 : Int32))])) _
    refine XS.ifNo X6.here hx rfl (hb hby d4_102) rfl (by decide) ?_
    show Steps p.tables e below (T6.setTop (mkF m 105 #[.val (.ref r1), .val (.ref r2), .unset] [])) _
    refine XS.aloadN X6.here hx rfl (hb hby d4_105) rfl rfl ?_
    show Steps p.tables e below (T6.setTop (mkF m 106 #[.val (.ref r1), .val (.ref r2), .unset] [(.ref r2)])) _
    refine st7 _ ?_
    show Steps p.tables e below (T7.setTop (mkF m 109 #[.val (.ref r1), .val (.ref r2), .unset] [(.int (1 : Int32))])) _
    refine XS.ifNo X7.here hx rfl (hb hby d4_109) rfl (by decide) ?_
    show Steps p.tables e below (T7.setTop (mkF m 112 #[.val (.ref r1), .val (.ref r2), .unset] [])) _
    refine XS.aloadN X7.here hx rfl (hb hby d4_112) rfl rfl ?_
    show Steps p.tables e below (T7.setTop (mkF m 113 #[.val (.ref r1), .val (.ref r2), .unset] [(.ref r1)])) _
    refine st8 _ ?_
    show Steps p.tables e below (T8.setTop (mkF m 116 #[.val (.ref r1), .val (.ref r2), .unset] [(.int (0 : Int32))])) _
    refine XS.ifYes X8.here hx rfl (pc0 := 116) (pc' := 126) rfl (hb hby d4_116) rfl (by decide) (by decide) (by decide) ?_
    show Steps p.tables e below (T8.setTop (mkF m 126 #[.val (.ref r1), .val (.ref r2), .unset] [])) _
    refine XS.iconst X8.here hx rfl (hb hby d4_126) ?_
    show Steps p.tables e below (T8.setTop (mkF m 127 #[.val (.ref r1), .val (.ref r2), .unset] [(.int (1 : Int32))])) _
    refine XS.goto X8.here hx rfl (pc0 := 127) (pc' := 131) rfl (hb hby d4_127) (by decide) (by decide) ?_
    show Steps p.tables e below (T8.setTop (mkF m 131 #[.val (.ref r1), .val (.ref r2), .unset] [(.int (1 : Int32))])) _
    refine XS.istoreN X8.here hx rfl (hb hby d4_131) rfl (l' := #[.val (.ref r1), .val (.ref r2), .val (.int (1 : Int32))]) rfl ?_
    show Steps p.tables e below (T8.setTop (mkF m 132 #[.val (.ref r1), .val (.ref r2), .val (.int (1 : Int32))] [])) _
    refine XS.iloadN X8.here hx rfl (hb hby d4_132) rfl ?_
    show Steps p.tables e below (T8.setTop (mkF m 133 #[.val (.ref r1), .val (.ref r2), .val (.int (1 : Int32))] [(.int (1 : Int32))])) _
    exact retN X8 hx (t := .boolean) Bd.returns (by simp) (hb hby d4_133) hr
  · show own_QP (some (.int (1 : Int32))) n0 h0 _ T8.heap _
    rw [e8]
    exact ⟨rfl, N0, rfl⟩
set_option maxRecDepth 65536 in
set_option maxHeartbeats 40000000 in
theorem rm1_2 (l : Launch) (Z : State) (a0 : Array Value) (hw : ∀ d ∈ tables_1, d.before a0 Z = true) (p1 : Int32) (h0 : Heap) (n0 : Nat) (O0 : Old Z n0 h0) (P1 : ((p1 &&& (2147483647 : Int32)) % (7 : Int32)) = (2 : Int32)) :
    MetFree l (⟨"com/example/key_warden/keywarden/engine/LockModeConflictsWithPinLaw", "pick", "(II)I"⟩ : MethodName) (head1 [Jvm.Cond.code (⟨"com/example/key_warden/keywarden/engine/LockModeConflictsWithPinLaw", "pick", "(II)I"⟩ : MethodName) method_2_code 4 (some .int)] ({ frames := 0, cells := 0, slots := 0, locals := 0 } : Room)) (fun a U => a = #[(.int (0 : Int32)), (.int p1)] ∧ Z.Warmed39 U.vm ∧ U.heap = h0) (fun _ _ _ _ _ => True) (fun _ U o U' => ∃ v L, o = .returned v ∧ own_QP (some (.int (4 : Int32))) n0 h0 v U'.heap L ∧ FrameEnd U o U' L ({ frames := 0, cells := 0, slots := 0, locals := 0 } : Room).cells ({ frames := 0, cells := 0, slots := 0, locals := 0 } : Room).slots) := by
  refine MetFree.of_bodySF (plainFor_of_name pn_4) hisR ?_
  intro p e s m args below meth c s₁ Bd hml0 hP hK
  obtain ⟨rfl, hZ, hh⟩ := hP
  have hx := Bd.exec
  have hby := Bd.bytes
  have hml : c.maxLocals = 4 := hml0
  have hown : s.vm.findClass "com/example/key_warden/keywarden/engine/LockModeConflictsWithPinLaw" = some m.cls := findClass_of_methodNamed Bd.named
  have hnm := (name_of_methodNamed Bd.named Bd.method).1
  have X0 : Stand p l e ({ frames := 0, cells := 0, slots := 0, locals := 0 } : Room) s m #[(.int (0 : Int32)), (.int p1)] below meth c s₁ [] 0 0 := Stand.of_body Bd
  have e0 : s₁.heap = h0 := by rw [← hh, Bd.state]; rfl
  have N0 := Fr.nil n0
  have pre0 : ∀ t, Steps p.tables e below (s₁.setTop (mkF m 0 #[.val (.int (0 : Int32)), .val (.int p1), .unset, .unset] [])) t → Steps p.tables e below (s₁.setTop (entryFrame m #[(.int (0 : Int32)), (.int p1)] 4)) t := fun t k => castTop (ef_1_II m (0 : Int32) p1) k
  obtain ⟨fs, hr, hrun, hended, hW, hsame⟩ := X0.leave (v := (some (.int (4 : Int32)))) (fun h => by rw [Bd.returns] at h; cases h)
  refine ⟨_, _, pre0 _ ?_, hrun, hended, _, _, rfl, ?_, ⟨_, rfl⟩, hW, hsame.mono (by decide) (by decide)⟩
  · show Steps p.tables e below (s₁.setTop (mkF m 0 #[.val (.int (0 : Int32)), .val (.int p1), .unset, .unset] [])) _
    refine XS.iloadN X0.here hx rfl (hb hby d1_0) rfl ?_
    show Steps p.tables e below (s₁.setTop (mkF m 1 #[.val (.int (0 : Int32)), .val (.int p1), .unset, .unset] [(.int p1)])) _
    refine X0.ldcInt hx hown (mvT hZ (hw _ (List.mem_of_getElem? (i := 4) rfl))) (g := (mkF m 1 #[.val (.int (0 : Int32)), .val (.int p1), .unset, .unset] [(.int p1)])) rfl (hb hby d1_1) _ ?_
    show Steps p.tables e below (s₁.setTop (mkF m 3 #[.val (.int (0 : Int32)), .val (.int p1), .unset, .unset] [(.int (2147483647 : Int32)), (.int p1)])) _
    refine XS.iand X0.here hx rfl (hb hby d1_3) rfl ?_
    show Steps p.tables e below (s₁.setTop (mkF m 4 #[.val (.int (0 : Int32)), .val (.int p1), .unset, .unset] [(.int (p1 &&& (2147483647 : Int32)))])) _
    refine XS.istoreN X0.here hx rfl (hb hby d1_4) rfl (l' := #[.val (.int (0 : Int32)), .val (.int p1), .val (.int (p1 &&& (2147483647 : Int32))), .unset]) rfl ?_
    show Steps p.tables e below (s₁.setTop (mkF m 5 #[.val (.int (0 : Int32)), .val (.int p1), .val (.int (p1 &&& (2147483647 : Int32))), .unset] [])) _
    refine XS.iloadN X0.here hx rfl (hb hby d1_5) rfl ?_
    show Steps p.tables e below (s₁.setTop (mkF m 6 #[.val (.int (0 : Int32)), .val (.int p1), .val (.int (p1 &&& (2147483647 : Int32))), .unset] [(.int (0 : Int32))])) _
    refine XS.ifYes X0.here hx rfl (pc0 := 6) (pc' := 23) rfl (hb hby d1_6) rfl (by decide) (by decide) (by decide) ?_
    show Steps p.tables e below (s₁.setTop (mkF m 23 #[.val (.int (0 : Int32)), .val (.int p1), .val (.int (p1 &&& (2147483647 : Int32))), .unset] [])) _
    refine XS.iconst X0.here hx rfl (hb hby d1_23) ?_
    show Steps p.tables e below (s₁.setTop (mkF m 24 #[.val (.int (0 : Int32)), .val (.int p1), .val (.int (p1 &&& (2147483647 : Int32))), .unset] [(.int (2 : Int32))])) _
    refine XS.iloadN X0.here hx rfl (hb hby d1_24) rfl ?_
    show Steps p.tables e below (s₁.setTop (mkF m 25 #[.val (.int (0 : Int32)), .val (.int p1), .val (.int (p1 &&& (2147483647 : Int32))), .unset] [(.int (p1 &&& (2147483647 : Int32))), (.int (2 : Int32))])) _
    refine XS.bipush X0.here hx rfl (hb hby d1_25) ?_
    show Steps p.tables e below (s₁.setTop (mkF m 27 #[.val (.int (0 : Int32)), .val (.int p1), .val (.int (p1 &&& (2147483647 : Int32))), .unset] [(.int (7 : Int32)), (.int (p1 &&& (2147483647 : Int32))), (.int (2 : Int32))])) _
    refine iremM (g := (mkF m 27 #[.val (.int (0 : Int32)), .val (.int p1), .val (.int (p1 &&& (2147483647 : Int32))), .unset] [(.int (7 : Int32)), (.int (p1 &&& (2147483647 : Int32))), (.int (2 : Int32))])) X0 hx rfl (hb hby d1_27) rfl (by decide) ?_
    show Steps p.tables e below (s₁.setTop (mkF m 28 #[.val (.int (0 : Int32)), .val (.int p1), .val (.int (p1 &&& (2147483647 : Int32))), .unset] [(.int ((p1 &&& (2147483647 : Int32)) % (7 : Int32))), (.int (2 : Int32))])) _
    rw [P1]
    show Steps p.tables e below (s₁.setTop (mkF m 28 #[.val (.int (0 : Int32)), .val (.int p1), .val (.int (p1 &&& (2147483647 : Int32))), .unset] [(.int (2 : Int32)), (.int (2 : Int32))])) _
    refine XS.iadd X0.here hx rfl (hb hby d1_28) rfl ?_
    show Steps p.tables e below (s₁.setTop (mkF m 29 #[.val (.int (0 : Int32)), .val (.int p1), .val (.int (p1 &&& (2147483647 : Int32))), .unset] [(.int ((2 : Int32) + (2 : Int32)))])) _
    rw [fo_2]
    show Steps p.tables e below (s₁.setTop (mkF m 29 #[.val (.int (0 : Int32)), .val (.int p1), .val (.int (p1 &&& (2147483647 : Int32))), .unset] [(.int (4 : Int32))])) _
    exact retI X0 hx Bd.returns (hb hby d1_29) hr
  · show own_QP (some (.int (4 : Int32))) n0 h0 _ s₁.heap _
    rw [e0]
    exact ⟨rfl, N0, rfl⟩
set_option maxRecDepth 65536 in
set_option maxHeartbeats 40000000 in
theorem rm3_2 (l : Launch) (Z : State) (a0 : Array Value) (hw : ∀ d ∈ tables_1, d.before a0 Z = true) (w_X_GAP : Addr) (h0 : Heap) (n0 : Nat) (O0 : Old Z n0 h0) (P1 : Sta Z Z.heap "com/example/key_warden/keywarden/engine/LockMode" "X_GAP" "Lcom/example/key_warden/keywarden/engine/LockMode;" (.ref w_X_GAP)) :
    MetFree l (⟨"com/example/key_warden/keywarden/engine/LockModeConflictsWithPinLaw", "mode", "(I)Lcom/example/key_warden/keywarden/engine/LockMode;"⟩ : MethodName) (head1 [Jvm.Cond.code (⟨"com/example/key_warden/keywarden/engine/LockModeConflictsWithPinLaw", "mode", "(I)Lcom/example/key_warden/keywarden/engine/LockMode;"⟩ : MethodName) method_3_code 1 (some (.object "com/example/key_warden/keywarden/engine/LockMode"))] ({ frames := 0, cells := 0, slots := 0, locals := 0 } : Room)) (fun a U => a = #[(.int (4 : Int32))] ∧ Z.Warmed39 U.vm ∧ U.heap = h0) (fun _ _ _ _ _ => True) (fun _ U o U' => ∃ v L, o = .returned v ∧ own_QP (some (.ref w_X_GAP)) n0 h0 v U'.heap L ∧ FrameEnd U o U' L ({ frames := 0, cells := 0, slots := 0, locals := 0 } : Room).cells ({ frames := 0, cells := 0, slots := 0, locals := 0 } : Room).slots) := by
  refine MetFree.of_bodySF (plainFor_of_name pn_4) hisR ?_
  intro p e s m args below meth c s₁ Bd hml0 hP hK
  obtain ⟨rfl, hZ, hh⟩ := hP
  have hx := Bd.exec
  have hby := Bd.bytes
  have hml : c.maxLocals = 1 := hml0
  have hown : s.vm.findClass "com/example/key_warden/keywarden/engine/LockModeConflictsWithPinLaw" = some m.cls := findClass_of_methodNamed Bd.named
  have hnm := (name_of_methodNamed Bd.named Bd.method).1
  have X0 : Stand p l e ({ frames := 0, cells := 0, slots := 0, locals := 0 } : Room) s m #[(.int (4 : Int32))] below meth c s₁ [] 0 0 := Stand.of_body Bd
  have e0 : s₁.heap = h0 := by rw [← hh, Bd.state]; rfl
  have N0 := Fr.nil n0
  have pre0 : ∀ t, Steps p.tables e below (s₁.setTop (mkF m 0 #[.val (.int (4 : Int32))] [])) t → Steps p.tables e below (s₁.setTop (entryFrame m #[(.int (4 : Int32))] 1)) t := fun t k => castTop (ef_3_I m (4 : Int32)) k
  obtain ⟨T1, X1, e1, st1⟩ := getS2 X0 hx hZ hown (host := "") (Or.inl (hw _ (List.mem_of_getElem? (i := 39) rfl))) Via.refl e0 (P1.ext O0.2) (g := (mkF m 40 #[.val (.int (4 : Int32))] [])) rfl (hb hby d3_40)
  obtain ⟨fs, hr, hrun, hended, hW, hsame⟩ := X1.leave (v := (some (.ref w_X_GAP))) (fun h => by rw [Bd.returns] at h; cases h)
  refine ⟨_, _, pre0 _ ?_, hrun, hended, _, _, rfl, ?_, ⟨_, rfl⟩, hW, hsame.mono (by decide) (by decide)⟩
  · show Steps p.tables e below (s₁.setTop (mkF m 0 #[.val (.int (4 : Int32))] [])) _
    refine XS.iloadN X0.here hx rfl (hb hby d3_0) rfl ?_
    show Steps p.tables e below (s₁.setTop (mkF m 1 #[.val (.int (4 : Int32))] [(.int (4 : Int32))])) _
    refine XS.ifYes X0.here hx rfl (pc0 := 1) (pc' := 8) rfl (hb hby d3_1) rfl (by decide) (by decide) (by decide) ?_
    show Steps p.tables e below (s₁.setTop (mkF m 8 #[.val (.int (4 : Int32))] [])) _
    refine XS.iloadN X0.here hx rfl (hb hby d3_8) rfl ?_
    show Steps p.tables e below (s₁.setTop (mkF m 9 #[.val (.int (4 : Int32))] [(.int (4 : Int32))])) _
    refine XS.iconst X0.here hx rfl (hb hby d3_9) ?_
    show Steps p.tables e below (s₁.setTop (mkF m 10 #[.val (.int (4 : Int32))] [(.int (1 : Int32)), (.int (4 : Int32))])) _
    refine XS.icmpYes X0.here hx rfl (pc0 := 10) (pc' := 17) rfl (hb hby d3_10) rfl (by decide) (by decide) (by decide) ?_
    show Steps p.tables e below (s₁.setTop (mkF m 17 #[.val (.int (4 : Int32))] [])) _
    refine XS.iloadN X0.here hx rfl (hb hby d3_17) rfl ?_
    show Steps p.tables e below (s₁.setTop (mkF m 18 #[.val (.int (4 : Int32))] [(.int (4 : Int32))])) _
    refine XS.iconst X0.here hx rfl (hb hby d3_18) ?_
    show Steps p.tables e below (s₁.setTop (mkF m 19 #[.val (.int (4 : Int32))] [(.int (2 : Int32)), (.int (4 : Int32))])) _
    refine XS.icmpYes X0.here hx rfl (pc0 := 19) (pc' := 26) rfl (hb hby d3_19) rfl (by decide) (by decide) (by decide) ?_
    show Steps p.tables e below (s₁.setTop (mkF m 26 #[.val (.int (4 : Int32))] [])) _
    refine XS.iloadN X0.here hx rfl (hb hby d3_26) rfl ?_
    show Steps p.tables e below (s₁.setTop (mkF m 27 #[.val (.int (4 : Int32))] [(.int (4 : Int32))])) _
    refine XS.iconst X0.here hx rfl (hb hby d3_27) ?_
    show Steps p.tables e below (s₁.setTop (mkF m 28 #[.val (.int (4 : Int32))] [(.int (3 : Int32)), (.int (4 : Int32))])) _
    refine XS.icmpYes X0.here hx rfl (pc0 := 28) (pc' := 35) rfl (hb hby d3_28) rfl (by decide) (by decide) (by decide) ?_
    show Steps p.tables e below (s₁.setTop (mkF m 35 #[.val (.int (4 : Int32))] [])) _
    refine XS.iloadN X0.here hx rfl (hb hby d3_35) rfl ?_
    show Steps p.tables e below (s₁.setTop (mkF m 36 #[.val (.int (4 : Int32))] [(.int (4 : Int32))])) _
    refine XS.iconst X0.here hx rfl (hb hby d3_36) ?_
    show Steps p.tables e below (s₁.setTop (mkF m 37 #[.val (.int (4 : Int32))] [(.int (4 : Int32)), (.int (4 : Int32))])) _
    refine XS.icmpNo X0.here hx rfl (hb hby d3_37) rfl (by decide) ?_
    show Steps p.tables e below (s₁.setTop (mkF m 40 #[.val (.int (4 : Int32))] [])) _
    refine st1 _ ?_
    show Steps p.tables e below (T1.setTop (mkF m 43 #[.val (.int (4 : Int32))] [(.ref w_X_GAP)])) _
    exact retA X1 hx Bd.returns rfl rfl rfl (hb hby d3_43) hr
  · show own_QP (some (.ref w_X_GAP)) n0 h0 _ T1.heap _
    rw [e1]
    exact ⟨rfl, N0, rfl⟩
set_option maxRecDepth 65536 in
set_option maxHeartbeats 40000000 in
theorem rm4_2 (l : Launch) (Z : State) (a0 : Array Value) (hw : ∀ d ∈ tables_1, d.before a0 Z = true) (r1 : Addr) (r2 : Addr) (h0 : Heap) (n0 : Nat) (O0 : Old Z n0 h0) (P1 : Fld Z h0 r1 "com/example/key_warden/keywarden/engine/LockMode" "intention" "Z" (.int (0 : Int32))) (P2 : Fld Z h0 r1 "com/example/key_warden/keywarden/engine/LockMode" "keyLock" "Z" (.int (0 : Int32))) (P3 : Fld Z h0 r2 "com/example/key_warden/keywarden/engine/LockMode" "keyLock" "Z" (.int (0 : Int32))) (P4 : Fld Z h0 r1 "com/example/key_warden/keywarden/engine/LockMode" "insertIntention" "Z" (.int (0 : Int32))) (P5 : Fld Z h0 r2 "com/example/key_warden/keywarden/engine/LockMode" "insertIntention" "Z" (.int (0 : Int32))) (P6 : Fld Z h0 r1 "com/example/key_warden/keywarden/engine/LockMode" "coversTarget" "Z" (.int (1 : Int32))) (P7 : Fld Z h0 r2 "com/example/key_warden/keywarden/engine/LockMode" "coversTarget" "Z" (.int (0 : Int32))) :
    MetFree l (⟨"com/example/key_warden/keywarden/engine/LockMode", "conflictsWith", "(Lcom/example/key_warden/keywarden/engine/LockMode;)Z"⟩ : MethodName) (head1 [Jvm.Cond.code (⟨"com/example/key_warden/keywarden/engine/LockMode", "conflictsWith", "(Lcom/example/key_warden/keywarden/engine/LockMode;)Z"⟩ : MethodName) prog_26_method_6_code 3 (some .boolean)] ({ frames := 0, cells := 0, slots := 0, locals := 0 } : Room)) (fun a U => a = #[(.ref r1), (.ref r2)] ∧ Z.Warmed39 U.vm ∧ U.heap = h0) (fun _ _ _ _ _ => True) (fun _ U o U' => ∃ v L, o = .returned v ∧ own_QP (some (.int (0 : Int32))) n0 h0 v U'.heap L ∧ FrameEnd U o U' L ({ frames := 0, cells := 0, slots := 0, locals := 0 } : Room).cells ({ frames := 0, cells := 0, slots := 0, locals := 0 } : Room).slots) := by
  refine MetFree.of_bodySF (plainFor_of_name pn_9) hisR ?_
  intro p e s m args below meth c s₁ Bd hml0 hP hK
  obtain ⟨rfl, hZ, hh⟩ := hP
  have hx := Bd.exec
  have hby := Bd.bytes
  have hml : c.maxLocals = 3 := hml0
  have hown : s.vm.findClass "com/example/key_warden/keywarden/engine/LockMode" = some m.cls := findClass_of_methodNamed Bd.named
  have hnm := (name_of_methodNamed Bd.named Bd.method).1
  have X0 : Stand p l e ({ frames := 0, cells := 0, slots := 0, locals := 0 } : Room) s m #[(.ref r1), (.ref r2)] below meth c s₁ [] 0 0 := Stand.of_body Bd
  have e0 : s₁.heap = h0 := by rw [← hh, Bd.state]; rfl
  have N0 := Fr.nil n0
  have pre0 : ∀ t, Steps p.tables e below (s₁.setTop (mkF m 0 #[.val (.ref r1), .val (.ref r2), .unset] [])) t → Steps p.tables e below (s₁.setTop (entryFrame m #[(.ref r1), (.ref r2)] 3)) t := fun t k => castTop (ef_4_RR m r1 r2) k
  obtain ⟨T1, X1, e1, st1⟩ := getF X0 hx hZ hown (host := "") (Or.inl (hw _ (List.mem_of_getElem? (i := 21) rfl))) Via.refl e0 P1 (g := (mkF m 1 #[.val (.ref r1), .val (.ref r2), .unset] [(.ref r1)])) rfl rfl (hb hby d4_1)
  obtain ⟨T2, X2, e2, st2⟩ := getF X1 hx hZ hown (host := "") (Or.inl (hw _ (List.mem_of_getElem? (i := 23) rfl))) Via.refl e1 P2 (g := (mkF m 20 #[.val (.ref r1), .val (.ref r2), .unset] [(.ref r1)])) rfl rfl (hb hby d4_20)
  obtain ⟨T3, X3, e3, st3⟩ := getF X2 hx hZ hown (host := "") (Or.inl (hw _ (List.mem_of_getElem? (i := 23) rfl))) Via.refl e2 P3 (g := (mkF m 27 #[.val (.ref r1), .val (.ref r2), .unset] [(.ref r2)])) rfl rfl (hb hby d4_27)
  obtain ⟨T4, X4, e4, st4⟩ := getF X3 hx hZ hown (host := "") (Or.inl (hw _ (List.mem_of_getElem? (i := 25) rfl))) Via.refl e3 P4 (g := (mkF m 57 #[.val (.ref r1), .val (.ref r2), .unset] [(.ref r1)])) rfl rfl (hb hby d4_57)
  obtain ⟨T5, X5, e5, st5⟩ := getF X4 hx hZ hown (host := "") (Or.inl (hw _ (List.mem_of_getElem? (i := 25) rfl))) Via.refl e4 P5 (g := (mkF m 87 #[.val (.ref r1), .val (.ref r2), .unset] [(.ref r2)])) rfl rfl (hb hby d4_87)
  obtain ⟨T6, X6, e6, st6⟩ := getF X5 hx hZ hown (host := "") (Or.inl (hw _ (List.mem_of_getElem? (i := 27) rfl))) Via.refl e5 P6 (g := (mkF m 99 #[.val (.ref r1), .val (.ref r2), .unset] [(.ref r1)])) rfl rfl (hb hby d4_99)
  obtain ⟨T7, X7, e7, st7⟩ := getF X6 hx hZ hown (host := "") (Or.inl (hw _ (List.mem_of_getElem? (i := 27) rfl))) Via.refl e6 P7 (g := (mkF m 106 #[.val (.ref r1), .val (.ref r2), .unset] [(.ref r2)])) rfl rfl (hb hby d4_106)
  obtain ⟨fs, hr, hrun, hended, hW, hsame⟩ := X7.leave (v := (some (.int (0 : Int32)))) (fun h => by rw [Bd.returns] at h; cases h)
  refine ⟨_, _, pre0 _ ?_, hrun, hended, _, _, rfl, ?_, ⟨_, rfl⟩, hW, hsame.mono (by decide) (by decide)⟩
  · show Steps p.tables e below (s₁.setTop (mkF m 0 #[.val (.ref r1), .val (.ref r2), .unset] [])) _
    refine XS.aloadN X0.here hx rfl (hb hby d4_0) rfl rfl ?_
    show Steps p.tables e below (s₁.setTop (mkF m 1 #[.val (.ref r1), .val (.ref r2), .unset] [(.ref r1)])) _
    refine st1 _ ?_
    show Steps p.tables e below (T1.setTop (mkF m 4 #[.val (.ref r1), .val (.ref r2), .unset] [(.int (0 : Int32))])) _
    refine XS.ifYes X1.here hx rfl (pc0 := 4) (pc' := 19) rfl (hb hby d4_4) rfl (by decide) (by decide) (by decide) ?_
    show Steps p.tables e below (T1.setTop (mkF m 19 #[.val (.ref r1), .val (.ref r2), .unset] [])) _
    refine XS.aloadN X1.here hx rfl (hb hby d4_19) rfl rfl ?_
    show Steps p.tables e below (T1.setTop (mkF m 20 #[.val (.ref r1), .val (.ref r2), .unset] [(.ref r1)])) _
    refine st2 _ ?_
    show Steps p.tables e below (T2.setTop (mkF m 23 #[.val (.ref r1), .val (.ref r2), .unset] [(.int (0 : Int32))])) _
    refine XS.ifNo X2.here hx rfl (hb hby d4_23) rfl (by decide) ?_
    show Steps p.tables e below (T2.setTop (mkF m 26 #[.val (.ref r1), .val (.ref r2), .unset] [])) _
    refine XS.aloadN X2.here hx rfl (hb hby d4_26) rfl rfl ?_
    show Steps p.tables e below (T2.setTop (mkF m 27 #[.val (.ref r1), .val (.ref r2), .unset] [(.ref r2)])) _
    refine st3 _ ?_
    show Steps p.tables e below (T3.setTop (mkF m 30 #[.val (.ref r1), .val (.ref r2), .unset] [(.int (0 : Int32))])) _
    refine XS.ifYes X3.here hx rfl (pc0 := 30) (pc' := 56) rfl (hb hby d4_30) rfl (by decide) (by decide) (by decide) ?_
    show Steps p.tables e below (T3.setTop (mkF m 56 #[.val (.ref r1), .val (.ref r2), .unset] [])) _
    refine XS.aloadN X3.here hx rfl (hb hby d4_56) rfl rfl ?_
    show Steps p.tables e below (T3.setTop (mkF m 57 #[.val (.ref r1), .val (.ref r2), .unset] [(.ref r1)])) _
    refine st4 _ ?_
    show Steps p.tables e below (T4.setTop (mkF m 60 #[.val (.ref r1), .val (.ref r2), .unset] [(.int (0 : Int32))])) _
    refine XS.ifYes X4.here hx rfl (pc0 := 60) (pc' := 86) rfl (hb hby d4_60) rfl (by decide) (by decide) (by decide) ?_
    show Steps p.tables e below (T4.setTop (mkF m 86 #[.val (.ref r1), .val (.ref r2), .unset] [])) _
    refine XS.aloadN X4.here hx rfl (hb hby d4_86) rfl rfl ?_
    show Steps p.tables e below (T4.setTop (mkF m 87 #[.val (.ref r1), .val (.ref r2), .unset] [(.ref r2)])) _
    refine st5 _ ?_
    show Steps p.tables e below (T5.setTop (mkF m 90 #[.val (.ref r1), .val (.ref r2), .unset] [(.int (0 : Int32))])) _
    refine XS.ifYes X5.here hx rfl (pc0 := 90) (pc' := 98) rfl (hb hby d4_90) rfl (by decide) (by decide) (by decide) ?_
    show Steps p.tables e below (T5.setTop (mkF m 98 #[.val (.ref r1), .val (.ref r2), .unset] [])) _
    refine XS.aloadN X5.here hx rfl (hb hby d4_98) rfl rfl ?_
    show Steps p.tables e below (T5.setTop (mkF m 99 #[.val (.ref r1), .val (.ref r2), .unset] [(.ref r1)])) _
    refine st6 _ ?_
    show Steps p.tables e below (T6.setTop (mkF m 102 #[.val (.ref r1), .val (.ref r2), .unset] [(.int (1 : Int32))])) _
    refine XS.ifNo X6.here hx rfl (hb hby d4_102) rfl (by decide) ?_
    show Steps p.tables e below (T6.setTop (mkF m 105 #[.val (.ref r1), .val (.ref r2), .unset] [])) _
    refine XS.aloadN X6.here hx rfl (hb hby d4_105) rfl rfl ?_
    show Steps p.tables e below (T6.setTop (mkF m 106 #[.val (.ref r1), .val (.ref r2), .unset] [(.ref r2)])) _
    refine st7 _ ?_
    show Steps p.tables e below (T7.setTop (mkF m 109 #[.val (.ref r1), .val (.ref r2), .unset] [(.int (0 : Int32))])) _
    refine XS.ifYes X7.here hx rfl (pc0 := 109) (pc' := 130) rfl (hb hby d4_109) rfl (by decide) (by decide) (by decide) ?_
    show Steps p.tables e below (T7.setTop (mkF m 130 #[.val (.ref r1), .val (.ref r2), .unset] [])) _
    refine XS.iconst X7.here hx rfl (hb hby d4_130) ?_
    show Steps p.tables e below (T7.setTop (mkF m 131 #[.val (.ref r1), .val (.ref r2), .unset] [(.int (0 : Int32))])) _
    refine XS.istoreN X7.here hx rfl (hb hby d4_131) rfl (l' := #[.val (.ref r1), .val (.ref r2), .val (.int (0 : Int32))]) rfl ?_
    show Steps p.tables e below (T7.setTop (mkF m 132 #[.val (.ref r1), .val (.ref r2), .val (.int (0 : Int32))] [])) _
    refine XS.iloadN X7.here hx rfl (hb hby d4_132) rfl ?_
    show Steps p.tables e below (T7.setTop (mkF m 133 #[.val (.ref r1), .val (.ref r2), .val (.int (0 : Int32))] [(.int (0 : Int32))])) _
    exact retN X7 hx (t := .boolean) Bd.returns (by simp) (hb hby d4_133) hr
  · show own_QP (some (.int (0 : Int32))) n0 h0 _ T7.heap _
    rw [e7]
    exact ⟨rfl, N0, rfl⟩
set_option maxRecDepth 65536 in
set_option maxHeartbeats 40000000 in
theorem rm1_3 (l : Launch) (Z : State) (a0 : Array Value) (hw : ∀ d ∈ tables_1, d.before a0 Z = true) (p1 : Int32) (h0 : Heap) (n0 : Nat) (O0 : Old Z n0 h0) (P1 : ((p1 &&& (2147483647 : Int32)) % (7 : Int32)) = (3 : Int32)) :
    MetFree l (⟨"com/example/key_warden/keywarden/engine/LockModeConflictsWithPinLaw", "pick", "(II)I"⟩ : MethodName) (head1 [Jvm.Cond.code (⟨"com/example/key_warden/keywarden/engine/LockModeConflictsWithPinLaw", "pick", "(II)I"⟩ : MethodName) method_2_code 4 (some .int)] ({ frames := 0, cells := 0, slots := 0, locals := 0 } : Room)) (fun a U => a = #[(.int (0 : Int32)), (.int p1)] ∧ Z.Warmed39 U.vm ∧ U.heap = h0) (fun _ _ _ _ _ => True) (fun _ U o U' => ∃ v L, o = .returned v ∧ own_QP (some (.int (5 : Int32))) n0 h0 v U'.heap L ∧ FrameEnd U o U' L ({ frames := 0, cells := 0, slots := 0, locals := 0 } : Room).cells ({ frames := 0, cells := 0, slots := 0, locals := 0 } : Room).slots) := by
  refine MetFree.of_bodySF (plainFor_of_name pn_4) hisR ?_
  intro p e s m args below meth c s₁ Bd hml0 hP hK
  obtain ⟨rfl, hZ, hh⟩ := hP
  have hx := Bd.exec
  have hby := Bd.bytes
  have hml : c.maxLocals = 4 := hml0
  have hown : s.vm.findClass "com/example/key_warden/keywarden/engine/LockModeConflictsWithPinLaw" = some m.cls := findClass_of_methodNamed Bd.named
  have hnm := (name_of_methodNamed Bd.named Bd.method).1
  have X0 : Stand p l e ({ frames := 0, cells := 0, slots := 0, locals := 0 } : Room) s m #[(.int (0 : Int32)), (.int p1)] below meth c s₁ [] 0 0 := Stand.of_body Bd
  have e0 : s₁.heap = h0 := by rw [← hh, Bd.state]; rfl
  have N0 := Fr.nil n0
  have pre0 : ∀ t, Steps p.tables e below (s₁.setTop (mkF m 0 #[.val (.int (0 : Int32)), .val (.int p1), .unset, .unset] [])) t → Steps p.tables e below (s₁.setTop (entryFrame m #[(.int (0 : Int32)), (.int p1)] 4)) t := fun t k => castTop (ef_1_II m (0 : Int32) p1) k
  obtain ⟨fs, hr, hrun, hended, hW, hsame⟩ := X0.leave (v := (some (.int (5 : Int32)))) (fun h => by rw [Bd.returns] at h; cases h)
  refine ⟨_, _, pre0 _ ?_, hrun, hended, _, _, rfl, ?_, ⟨_, rfl⟩, hW, hsame.mono (by decide) (by decide)⟩
  · show Steps p.tables e below (s₁.setTop (mkF m 0 #[.val (.int (0 : Int32)), .val (.int p1), .unset, .unset] [])) _
    refine XS.iloadN X0.here hx rfl (hb hby d1_0) rfl ?_
    show Steps p.tables e below (s₁.setTop (mkF m 1 #[.val (.int (0 : Int32)), .val (.int p1), .unset, .unset] [(.int p1)])) _
    refine X0.ldcInt hx hown (mvT hZ (hw _ (List.mem_of_getElem? (i := 4) rfl))) (g := (mkF m 1 #[.val (.int (0 : Int32)), .val (.int p1), .unset, .unset] [(.int p1)])) rfl (hb hby d1_1) _ ?_
    show Steps p.tables e below (s₁.setTop (mkF m 3 #[.val (.int (0 : Int32)), .val (.int p1), .unset, .unset] [(.int (2147483647 : Int32)), (.int p1)])) _
    refine XS.iand X0.here hx rfl (hb hby d1_3) rfl ?_
    show Steps p.tables e below (s₁.setTop (mkF m 4 #[.val (.int (0 : Int32)), .val (.int p1), .unset, .unset] [(.int (p1 &&& (2147483647 : Int32)))])) _
    refine XS.istoreN X0.here hx rfl (hb hby d1_4) rfl (l' := #[.val (.int (0 : Int32)), .val (.int p1), .val (.int (p1 &&& (2147483647 : Int32))), .unset]) rfl ?_
    show Steps p.tables e below (s₁.setTop (mkF m 5 #[.val (.int (0 : Int32)), .val (.int p1), .val (.int (p1 &&& (2147483647 : Int32))), .unset] [])) _
    refine XS.iloadN X0.here hx rfl (hb hby d1_5) rfl ?_
    show Steps p.tables e below (s₁.setTop (mkF m 6 #[.val (.int (0 : Int32)), .val (.int p1), .val (.int (p1 &&& (2147483647 : Int32))), .unset] [(.int (0 : Int32))])) _
    refine XS.ifYes X0.here hx rfl (pc0 := 6) (pc' := 23) rfl (hb hby d1_6) rfl (by decide) (by decide) (by decide) ?_
    show Steps p.tables e below (s₁.setTop (mkF m 23 #[.val (.int (0 : Int32)), .val (.int p1), .val (.int (p1 &&& (2147483647 : Int32))), .unset] [])) _
    refine XS.iconst X0.here hx rfl (hb hby d1_23) ?_
    show Steps p.tables e below (s₁.setTop (mkF m 24 #[.val (.int (0 : Int32)), .val (.int p1), .val (.int (p1 &&& (2147483647 : Int32))), .unset] [(.int (2 : Int32))])) _
    refine XS.iloadN X0.here hx rfl (hb hby d1_24) rfl ?_
    show Steps p.tables e below (s₁.setTop (mkF m 25 #[.val (.int (0 : Int32)), .val (.int p1), .val (.int (p1 &&& (2147483647 : Int32))), .unset] [(.int (p1 &&& (2147483647 : Int32))), (.int (2 : Int32))])) _
    refine XS.bipush X0.here hx rfl (hb hby d1_25) ?_
    show Steps p.tables e below (s₁.setTop (mkF m 27 #[.val (.int (0 : Int32)), .val (.int p1), .val (.int (p1 &&& (2147483647 : Int32))), .unset] [(.int (7 : Int32)), (.int (p1 &&& (2147483647 : Int32))), (.int (2 : Int32))])) _
    refine iremM (g := (mkF m 27 #[.val (.int (0 : Int32)), .val (.int p1), .val (.int (p1 &&& (2147483647 : Int32))), .unset] [(.int (7 : Int32)), (.int (p1 &&& (2147483647 : Int32))), (.int (2 : Int32))])) X0 hx rfl (hb hby d1_27) rfl (by decide) ?_
    show Steps p.tables e below (s₁.setTop (mkF m 28 #[.val (.int (0 : Int32)), .val (.int p1), .val (.int (p1 &&& (2147483647 : Int32))), .unset] [(.int ((p1 &&& (2147483647 : Int32)) % (7 : Int32))), (.int (2 : Int32))])) _
    rw [P1]
    show Steps p.tables e below (s₁.setTop (mkF m 28 #[.val (.int (0 : Int32)), .val (.int p1), .val (.int (p1 &&& (2147483647 : Int32))), .unset] [(.int (3 : Int32)), (.int (2 : Int32))])) _
    refine XS.iadd X0.here hx rfl (hb hby d1_28) rfl ?_
    show Steps p.tables e below (s₁.setTop (mkF m 29 #[.val (.int (0 : Int32)), .val (.int p1), .val (.int (p1 &&& (2147483647 : Int32))), .unset] [(.int ((2 : Int32) + (3 : Int32)))])) _
    rw [fo_3]
    show Steps p.tables e below (s₁.setTop (mkF m 29 #[.val (.int (0 : Int32)), .val (.int p1), .val (.int (p1 &&& (2147483647 : Int32))), .unset] [(.int (5 : Int32))])) _
    exact retI X0 hx Bd.returns (hb hby d1_29) hr
  · show own_QP (some (.int (5 : Int32))) n0 h0 _ s₁.heap _
    rw [e0]
    exact ⟨rfl, N0, rfl⟩
set_option maxRecDepth 65536 in
set_option maxHeartbeats 40000000 in
theorem rm3_3 (l : Launch) (Z : State) (a0 : Array Value) (hw : ∀ d ∈ tables_1, d.before a0 Z = true) (w_S : Addr) (h0 : Heap) (n0 : Nat) (O0 : Old Z n0 h0) (P1 : Sta Z Z.heap "com/example/key_warden/keywarden/engine/LockMode" "S" "Lcom/example/key_warden/keywarden/engine/LockMode;" (.ref w_S)) :
    MetFree l (⟨"com/example/key_warden/keywarden/engine/LockModeConflictsWithPinLaw", "mode", "(I)Lcom/example/key_warden/keywarden/engine/LockMode;"⟩ : MethodName) (head1 [Jvm.Cond.code (⟨"com/example/key_warden/keywarden/engine/LockModeConflictsWithPinLaw", "mode", "(I)Lcom/example/key_warden/keywarden/engine/LockMode;"⟩ : MethodName) method_3_code 1 (some (.object "com/example/key_warden/keywarden/engine/LockMode"))] ({ frames := 0, cells := 0, slots := 0, locals := 0 } : Room)) (fun a U => a = #[(.int (5 : Int32))] ∧ Z.Warmed39 U.vm ∧ U.heap = h0) (fun _ _ _ _ _ => True) (fun _ U o U' => ∃ v L, o = .returned v ∧ own_QP (some (.ref w_S)) n0 h0 v U'.heap L ∧ FrameEnd U o U' L ({ frames := 0, cells := 0, slots := 0, locals := 0 } : Room).cells ({ frames := 0, cells := 0, slots := 0, locals := 0 } : Room).slots) := by
  refine MetFree.of_bodySF (plainFor_of_name pn_4) hisR ?_
  intro p e s m args below meth c s₁ Bd hml0 hP hK
  obtain ⟨rfl, hZ, hh⟩ := hP
  have hx := Bd.exec
  have hby := Bd.bytes
  have hml : c.maxLocals = 1 := hml0
  have hown : s.vm.findClass "com/example/key_warden/keywarden/engine/LockModeConflictsWithPinLaw" = some m.cls := findClass_of_methodNamed Bd.named
  have hnm := (name_of_methodNamed Bd.named Bd.method).1
  have X0 : Stand p l e ({ frames := 0, cells := 0, slots := 0, locals := 0 } : Room) s m #[(.int (5 : Int32))] below meth c s₁ [] 0 0 := Stand.of_body Bd
  have e0 : s₁.heap = h0 := by rw [← hh, Bd.state]; rfl
  have N0 := Fr.nil n0
  have pre0 : ∀ t, Steps p.tables e below (s₁.setTop (mkF m 0 #[.val (.int (5 : Int32))] [])) t → Steps p.tables e below (s₁.setTop (entryFrame m #[(.int (5 : Int32))] 1)) t := fun t k => castTop (ef_3_I m (5 : Int32)) k
  obtain ⟨T1, X1, e1, st1⟩ := getS2 X0 hx hZ hown (host := "") (Or.inl (hw _ (List.mem_of_getElem? (i := 14) rfl))) Via.refl e0 (P1.ext O0.2) (g := (mkF m 49 #[.val (.int (5 : Int32))] [])) rfl (hb hby d3_49)
  obtain ⟨fs, hr, hrun, hended, hW, hsame⟩ := X1.leave (v := (some (.ref w_S))) (fun h => by rw [Bd.returns] at h; cases h)
  refine ⟨_, _, pre0 _ ?_, hrun, hended, _, _, rfl, ?_, ⟨_, rfl⟩, hW, hsame.mono (by decide) (by decide)⟩
  · show Steps p.tables e below (s₁.setTop (mkF m 0 #[.val (.int (5 : Int32))] [])) _
    refine XS.iloadN X0.here hx rfl (hb hby d3_0) rfl ?_
    show Steps p.tables e below (s₁.setTop (mkF m 1 #[.val (.int (5 : Int32))] [(.int (5 : Int32))])) _
    refine XS.ifYes X0.here hx rfl (pc0 := 1) (pc' := 8) rfl (hb hby d3_1) rfl (by decide) (by decide) (by decide) ?_
    show Steps p.tables e below (s₁.setTop (mkF m 8 #[.val (.int (5 : Int32))] [])) _
    refine XS.iloadN X0.here hx rfl (hb hby d3_8) rfl ?_
    show Steps p.tables e below (s₁.setTop (mkF m 9 #[.val (.int (5 : Int32))] [(.int (5 : Int32))])) _
    refine XS.iconst X0.here hx rfl (hb hby d3_9) ?_
    show Steps p.tables e below (s₁.setTop (mkF m 10 #[.val (.int (5 : Int32))] [(.int (1 : Int32)), (.int (5 : Int32))])) _
    refine XS.icmpYes X0.here hx rfl (pc0 := 10) (pc' := 17) rfl (hb hby d3_10) rfl (by decide) (by decide) (by decide) ?_
    show Steps p.tables e below (s₁.setTop (mkF m 17 #[.val (.int (5 : Int32))] [])) _
    refine XS.iloadN X0.here hx rfl (hb hby d3_17) rfl ?_
    show Steps p.tables e below (s₁.setTop (mkF m 18 #[.val (.int (5 : Int32))] [(.int (5 : Int32))])) _
    refine XS.iconst X0.here hx rfl (hb hby d3_18) ?_
    show Steps p.tables e below (s₁.setTop (mkF m 19 #[.val (.int (5 : Int32))] [(.int (2 : Int32)), (.int (5 : Int32))])) _
    refine XS.icmpYes X0.here hx rfl (pc0 := 19) (pc' := 26) rfl (hb hby d3_19) rfl (by decide) (by decide) (by decide) ?_
    show Steps p.tables e below (s₁.setTop (mkF m 26 #[.val (.int (5 : Int32))] [])) _
    refine XS.iloadN X0.here hx rfl (hb hby d3_26) rfl ?_
    show Steps p.tables e below (s₁.setTop (mkF m 27 #[.val (.int (5 : Int32))] [(.int (5 : Int32))])) _
    refine XS.iconst X0.here hx rfl (hb hby d3_27) ?_
    show Steps p.tables e below (s₁.setTop (mkF m 28 #[.val (.int (5 : Int32))] [(.int (3 : Int32)), (.int (5 : Int32))])) _
    refine XS.icmpYes X0.here hx rfl (pc0 := 28) (pc' := 35) rfl (hb hby d3_28) rfl (by decide) (by decide) (by decide) ?_
    show Steps p.tables e below (s₁.setTop (mkF m 35 #[.val (.int (5 : Int32))] [])) _
    refine XS.iloadN X0.here hx rfl (hb hby d3_35) rfl ?_
    show Steps p.tables e below (s₁.setTop (mkF m 36 #[.val (.int (5 : Int32))] [(.int (5 : Int32))])) _
    refine XS.iconst X0.here hx rfl (hb hby d3_36) ?_
    show Steps p.tables e below (s₁.setTop (mkF m 37 #[.val (.int (5 : Int32))] [(.int (4 : Int32)), (.int (5 : Int32))])) _
    refine XS.icmpYes X0.here hx rfl (pc0 := 37) (pc' := 44) rfl (hb hby d3_37) rfl (by decide) (by decide) (by decide) ?_
    show Steps p.tables e below (s₁.setTop (mkF m 44 #[.val (.int (5 : Int32))] [])) _
    refine XS.iloadN X0.here hx rfl (hb hby d3_44) rfl ?_
    show Steps p.tables e below (s₁.setTop (mkF m 45 #[.val (.int (5 : Int32))] [(.int (5 : Int32))])) _
    refine XS.iconst X0.here hx rfl (hb hby d3_45) ?_
    show Steps p.tables e below (s₁.setTop (mkF m 46 #[.val (.int (5 : Int32))] [(.int (5 : Int32)), (.int (5 : Int32))])) _
    refine XS.icmpNo X0.here hx rfl (hb hby d3_46) rfl (by decide) ?_
    show Steps p.tables e below (s₁.setTop (mkF m 49 #[.val (.int (5 : Int32))] [])) _
    refine st1 _ ?_
    show Steps p.tables e below (T1.setTop (mkF m 52 #[.val (.int (5 : Int32))] [(.ref w_S)])) _
    exact retA X1 hx Bd.returns rfl rfl rfl (hb hby d3_52) hr
  · show own_QP (some (.ref w_S)) n0 h0 _ T1.heap _
    rw [e1]
    exact ⟨rfl, N0, rfl⟩
set_option maxRecDepth 65536 in
set_option maxHeartbeats 40000000 in
theorem rm1_4 (l : Launch) (Z : State) (a0 : Array Value) (hw : ∀ d ∈ tables_1, d.before a0 Z = true) (p1 : Int32) (h0 : Heap) (n0 : Nat) (O0 : Old Z n0 h0) (P1 : ((p1 &&& (2147483647 : Int32)) % (7 : Int32)) = (4 : Int32)) :
    MetFree l (⟨"com/example/key_warden/keywarden/engine/LockModeConflictsWithPinLaw", "pick", "(II)I"⟩ : MethodName) (head1 [Jvm.Cond.code (⟨"com/example/key_warden/keywarden/engine/LockModeConflictsWithPinLaw", "pick", "(II)I"⟩ : MethodName) method_2_code 4 (some .int)] ({ frames := 0, cells := 0, slots := 0, locals := 0 } : Room)) (fun a U => a = #[(.int (0 : Int32)), (.int p1)] ∧ Z.Warmed39 U.vm ∧ U.heap = h0) (fun _ _ _ _ _ => True) (fun _ U o U' => ∃ v L, o = .returned v ∧ own_QP (some (.int (6 : Int32))) n0 h0 v U'.heap L ∧ FrameEnd U o U' L ({ frames := 0, cells := 0, slots := 0, locals := 0 } : Room).cells ({ frames := 0, cells := 0, slots := 0, locals := 0 } : Room).slots) := by
  refine MetFree.of_bodySF (plainFor_of_name pn_4) hisR ?_
  intro p e s m args below meth c s₁ Bd hml0 hP hK
  obtain ⟨rfl, hZ, hh⟩ := hP
  have hx := Bd.exec
  have hby := Bd.bytes
  have hml : c.maxLocals = 4 := hml0
  have hown : s.vm.findClass "com/example/key_warden/keywarden/engine/LockModeConflictsWithPinLaw" = some m.cls := findClass_of_methodNamed Bd.named
  have hnm := (name_of_methodNamed Bd.named Bd.method).1
  have X0 : Stand p l e ({ frames := 0, cells := 0, slots := 0, locals := 0 } : Room) s m #[(.int (0 : Int32)), (.int p1)] below meth c s₁ [] 0 0 := Stand.of_body Bd
  have e0 : s₁.heap = h0 := by rw [← hh, Bd.state]; rfl
  have N0 := Fr.nil n0
  have pre0 : ∀ t, Steps p.tables e below (s₁.setTop (mkF m 0 #[.val (.int (0 : Int32)), .val (.int p1), .unset, .unset] [])) t → Steps p.tables e below (s₁.setTop (entryFrame m #[(.int (0 : Int32)), (.int p1)] 4)) t := fun t k => castTop (ef_1_II m (0 : Int32) p1) k
  obtain ⟨fs, hr, hrun, hended, hW, hsame⟩ := X0.leave (v := (some (.int (6 : Int32)))) (fun h => by rw [Bd.returns] at h; cases h)
  refine ⟨_, _, pre0 _ ?_, hrun, hended, _, _, rfl, ?_, ⟨_, rfl⟩, hW, hsame.mono (by decide) (by decide)⟩
  · show Steps p.tables e below (s₁.setTop (mkF m 0 #[.val (.int (0 : Int32)), .val (.int p1), .unset, .unset] [])) _
    refine XS.iloadN X0.here hx rfl (hb hby d1_0) rfl ?_
    show Steps p.tables e below (s₁.setTop (mkF m 1 #[.val (.int (0 : Int32)), .val (.int p1), .unset, .unset] [(.int p1)])) _
    refine X0.ldcInt hx hown (mvT hZ (hw _ (List.mem_of_getElem? (i := 4) rfl))) (g := (mkF m 1 #[.val (.int (0 : Int32)), .val (.int p1), .unset, .unset] [(.int p1)])) rfl (hb hby d1_1) _ ?_
    show Steps p.tables e below (s₁.setTop (mkF m 3 #[.val (.int (0 : Int32)), .val (.int p1), .unset, .unset] [(.int (2147483647 : Int32)), (.int p1)])) _
    refine XS.iand X0.here hx rfl (hb hby d1_3) rfl ?_
    show Steps p.tables e below (s₁.setTop (mkF m 4 #[.val (.int (0 : Int32)), .val (.int p1), .unset, .unset] [(.int (p1 &&& (2147483647 : Int32)))])) _
    refine XS.istoreN X0.here hx rfl (hb hby d1_4) rfl (l' := #[.val (.int (0 : Int32)), .val (.int p1), .val (.int (p1 &&& (2147483647 : Int32))), .unset]) rfl ?_
    show Steps p.tables e below (s₁.setTop (mkF m 5 #[.val (.int (0 : Int32)), .val (.int p1), .val (.int (p1 &&& (2147483647 : Int32))), .unset] [])) _
    refine XS.iloadN X0.here hx rfl (hb hby d1_5) rfl ?_
    show Steps p.tables e below (s₁.setTop (mkF m 6 #[.val (.int (0 : Int32)), .val (.int p1), .val (.int (p1 &&& (2147483647 : Int32))), .unset] [(.int (0 : Int32))])) _
    refine XS.ifYes X0.here hx rfl (pc0 := 6) (pc' := 23) rfl (hb hby d1_6) rfl (by decide) (by decide) (by decide) ?_
    show Steps p.tables e below (s₁.setTop (mkF m 23 #[.val (.int (0 : Int32)), .val (.int p1), .val (.int (p1 &&& (2147483647 : Int32))), .unset] [])) _
    refine XS.iconst X0.here hx rfl (hb hby d1_23) ?_
    show Steps p.tables e below (s₁.setTop (mkF m 24 #[.val (.int (0 : Int32)), .val (.int p1), .val (.int (p1 &&& (2147483647 : Int32))), .unset] [(.int (2 : Int32))])) _
    refine XS.iloadN X0.here hx rfl (hb hby d1_24) rfl ?_
    show Steps p.tables e below (s₁.setTop (mkF m 25 #[.val (.int (0 : Int32)), .val (.int p1), .val (.int (p1 &&& (2147483647 : Int32))), .unset] [(.int (p1 &&& (2147483647 : Int32))), (.int (2 : Int32))])) _
    refine XS.bipush X0.here hx rfl (hb hby d1_25) ?_
    show Steps p.tables e below (s₁.setTop (mkF m 27 #[.val (.int (0 : Int32)), .val (.int p1), .val (.int (p1 &&& (2147483647 : Int32))), .unset] [(.int (7 : Int32)), (.int (p1 &&& (2147483647 : Int32))), (.int (2 : Int32))])) _
    refine iremM (g := (mkF m 27 #[.val (.int (0 : Int32)), .val (.int p1), .val (.int (p1 &&& (2147483647 : Int32))), .unset] [(.int (7 : Int32)), (.int (p1 &&& (2147483647 : Int32))), (.int (2 : Int32))])) X0 hx rfl (hb hby d1_27) rfl (by decide) ?_
    show Steps p.tables e below (s₁.setTop (mkF m 28 #[.val (.int (0 : Int32)), .val (.int p1), .val (.int (p1 &&& (2147483647 : Int32))), .unset] [(.int ((p1 &&& (2147483647 : Int32)) % (7 : Int32))), (.int (2 : Int32))])) _
    rw [P1]
    show Steps p.tables e below (s₁.setTop (mkF m 28 #[.val (.int (0 : Int32)), .val (.int p1), .val (.int (p1 &&& (2147483647 : Int32))), .unset] [(.int (4 : Int32)), (.int (2 : Int32))])) _
    refine XS.iadd X0.here hx rfl (hb hby d1_28) rfl ?_
    show Steps p.tables e below (s₁.setTop (mkF m 29 #[.val (.int (0 : Int32)), .val (.int p1), .val (.int (p1 &&& (2147483647 : Int32))), .unset] [(.int ((2 : Int32) + (4 : Int32)))])) _
    rw [fo_4]
    show Steps p.tables e below (s₁.setTop (mkF m 29 #[.val (.int (0 : Int32)), .val (.int p1), .val (.int (p1 &&& (2147483647 : Int32))), .unset] [(.int (6 : Int32))])) _
    exact retI X0 hx Bd.returns (hb hby d1_29) hr
  · show own_QP (some (.int (6 : Int32))) n0 h0 _ s₁.heap _
    rw [e0]
    exact ⟨rfl, N0, rfl⟩
set_option maxRecDepth 65536 in
set_option maxHeartbeats 40000000 in
theorem rm3_4 (l : Launch) (Z : State) (a0 : Array Value) (hw : ∀ d ∈ tables_1, d.before a0 Z = true) (w_S_REC_NOT_GAP : Addr) (h0 : Heap) (n0 : Nat) (O0 : Old Z n0 h0) (P1 : Sta Z Z.heap "com/example/key_warden/keywarden/engine/LockMode" "S_REC_NOT_GAP" "Lcom/example/key_warden/keywarden/engine/LockMode;" (.ref w_S_REC_NOT_GAP)) :
    MetFree l (⟨"com/example/key_warden/keywarden/engine/LockModeConflictsWithPinLaw", "mode", "(I)Lcom/example/key_warden/keywarden/engine/LockMode;"⟩ : MethodName) (head1 [Jvm.Cond.code (⟨"com/example/key_warden/keywarden/engine/LockModeConflictsWithPinLaw", "mode", "(I)Lcom/example/key_warden/keywarden/engine/LockMode;"⟩ : MethodName) method_3_code 1 (some (.object "com/example/key_warden/keywarden/engine/LockMode"))] ({ frames := 0, cells := 0, slots := 0, locals := 0 } : Room)) (fun a U => a = #[(.int (6 : Int32))] ∧ Z.Warmed39 U.vm ∧ U.heap = h0) (fun _ _ _ _ _ => True) (fun _ U o U' => ∃ v L, o = .returned v ∧ own_QP (some (.ref w_S_REC_NOT_GAP)) n0 h0 v U'.heap L ∧ FrameEnd U o U' L ({ frames := 0, cells := 0, slots := 0, locals := 0 } : Room).cells ({ frames := 0, cells := 0, slots := 0, locals := 0 } : Room).slots) := by
  refine MetFree.of_bodySF (plainFor_of_name pn_4) hisR ?_
  intro p e s m args below meth c s₁ Bd hml0 hP hK
  obtain ⟨rfl, hZ, hh⟩ := hP
  have hx := Bd.exec
  have hby := Bd.bytes
  have hml : c.maxLocals = 1 := hml0
  have hown : s.vm.findClass "com/example/key_warden/keywarden/engine/LockModeConflictsWithPinLaw" = some m.cls := findClass_of_methodNamed Bd.named
  have hnm := (name_of_methodNamed Bd.named Bd.method).1
  have X0 : Stand p l e ({ frames := 0, cells := 0, slots := 0, locals := 0 } : Room) s m #[(.int (6 : Int32))] below meth c s₁ [] 0 0 := Stand.of_body Bd
  have e0 : s₁.heap = h0 := by rw [← hh, Bd.state]; rfl
  have N0 := Fr.nil n0
  have pre0 : ∀ t, Steps p.tables e below (s₁.setTop (mkF m 0 #[.val (.int (6 : Int32))] [])) t → Steps p.tables e below (s₁.setTop (entryFrame m #[(.int (6 : Int32))] 1)) t := fun t k => castTop (ef_3_I m (6 : Int32)) k
  obtain ⟨T1, X1, e1, st1⟩ := getS2 X0 hx hZ hown (host := "") (Or.inl (hw _ (List.mem_of_getElem? (i := 41) rfl))) Via.refl e0 (P1.ext O0.2) (g := (mkF m 59 #[.val (.int (6 : Int32))] [])) rfl (hb hby d3_59)
  obtain ⟨fs, hr, hrun, hended, hW, hsame⟩ := X1.leave (v := (some (.ref w_S_REC_NOT_GAP))) (fun h => by rw [Bd.returns] at h; cases h)
  refine ⟨_, _, pre0 _ ?_, hrun, hended, _, _, rfl, ?_, ⟨_, rfl⟩, hW, hsame.mono (by decide) (by decide)⟩
  · show Steps p.tables e below (s₁.setTop (mkF m 0 #[.val (.int (6 : Int32))] [])) _
    refine XS.iloadN X0.here hx rfl (hb hby d3_0) rfl ?_
    show Steps p.tables e below (s₁.setTop (mkF m 1 #[.val (.int (6 : Int32))] [(.int (6 : Int32))])) _
    refine XS.ifYes X0.here hx rfl (pc0 := 1) (pc' := 8) rfl (hb hby d3_1) rfl (by decide) (by decide) (by decide) ?_
    show Steps p.tables e below (s₁.setTop (mkF m 8 #[.val (.int (6 : Int32))] [])) _
    refine XS.iloadN X0.here hx rfl (hb hby d3_8) rfl ?_
    show Steps p.tables e below (s₁.setTop (mkF m 9 #[.val (.int (6 : Int32))] [(.int (6 : Int32))])) _
    refine XS.iconst X0.here hx rfl (hb hby d3_9) ?_
    show Steps p.tables e below (s₁.setTop (mkF m 10 #[.val (.int (6 : Int32))] [(.int (1 : Int32)), (.int (6 : Int32))])) _
    refine XS.icmpYes X0.here hx rfl (pc0 := 10) (pc' := 17) rfl (hb hby d3_10) rfl (by decide) (by decide) (by decide) ?_
    show Steps p.tables e below (s₁.setTop (mkF m 17 #[.val (.int (6 : Int32))] [])) _
    refine XS.iloadN X0.here hx rfl (hb hby d3_17) rfl ?_
    show Steps p.tables e below (s₁.setTop (mkF m 18 #[.val (.int (6 : Int32))] [(.int (6 : Int32))])) _
    refine XS.iconst X0.here hx rfl (hb hby d3_18) ?_
    show Steps p.tables e below (s₁.setTop (mkF m 19 #[.val (.int (6 : Int32))] [(.int (2 : Int32)), (.int (6 : Int32))])) _
    refine XS.icmpYes X0.here hx rfl (pc0 := 19) (pc' := 26) rfl (hb hby d3_19) rfl (by decide) (by decide) (by decide) ?_
    show Steps p.tables e below (s₁.setTop (mkF m 26 #[.val (.int (6 : Int32))] [])) _
    refine XS.iloadN X0.here hx rfl (hb hby d3_26) rfl ?_
    show Steps p.tables e below (s₁.setTop (mkF m 27 #[.val (.int (6 : Int32))] [(.int (6 : Int32))])) _
    refine XS.iconst X0.here hx rfl (hb hby d3_27) ?_
    show Steps p.tables e below (s₁.setTop (mkF m 28 #[.val (.int (6 : Int32))] [(.int (3 : Int32)), (.int (6 : Int32))])) _
    refine XS.icmpYes X0.here hx rfl (pc0 := 28) (pc' := 35) rfl (hb hby d3_28) rfl (by decide) (by decide) (by decide) ?_
    show Steps p.tables e below (s₁.setTop (mkF m 35 #[.val (.int (6 : Int32))] [])) _
    refine XS.iloadN X0.here hx rfl (hb hby d3_35) rfl ?_
    show Steps p.tables e below (s₁.setTop (mkF m 36 #[.val (.int (6 : Int32))] [(.int (6 : Int32))])) _
    refine XS.iconst X0.here hx rfl (hb hby d3_36) ?_
    show Steps p.tables e below (s₁.setTop (mkF m 37 #[.val (.int (6 : Int32))] [(.int (4 : Int32)), (.int (6 : Int32))])) _
    refine XS.icmpYes X0.here hx rfl (pc0 := 37) (pc' := 44) rfl (hb hby d3_37) rfl (by decide) (by decide) (by decide) ?_
    show Steps p.tables e below (s₁.setTop (mkF m 44 #[.val (.int (6 : Int32))] [])) _
    refine XS.iloadN X0.here hx rfl (hb hby d3_44) rfl ?_
    show Steps p.tables e below (s₁.setTop (mkF m 45 #[.val (.int (6 : Int32))] [(.int (6 : Int32))])) _
    refine XS.iconst X0.here hx rfl (hb hby d3_45) ?_
    show Steps p.tables e below (s₁.setTop (mkF m 46 #[.val (.int (6 : Int32))] [(.int (5 : Int32)), (.int (6 : Int32))])) _
    refine XS.icmpYes X0.here hx rfl (pc0 := 46) (pc' := 53) rfl (hb hby d3_46) rfl (by decide) (by decide) (by decide) ?_
    show Steps p.tables e below (s₁.setTop (mkF m 53 #[.val (.int (6 : Int32))] [])) _
    refine XS.iloadN X0.here hx rfl (hb hby d3_53) rfl ?_
    show Steps p.tables e below (s₁.setTop (mkF m 54 #[.val (.int (6 : Int32))] [(.int (6 : Int32))])) _
    refine XS.bipush X0.here hx rfl (hb hby d3_54) ?_
    show Steps p.tables e below (s₁.setTop (mkF m 56 #[.val (.int (6 : Int32))] [(.int (6 : Int32)), (.int (6 : Int32))])) _
    refine XS.icmpNo X0.here hx rfl (hb hby d3_56) rfl (by decide) ?_
    show Steps p.tables e below (s₁.setTop (mkF m 59 #[.val (.int (6 : Int32))] [])) _
    refine st1 _ ?_
    show Steps p.tables e below (T1.setTop (mkF m 62 #[.val (.int (6 : Int32))] [(.ref w_S_REC_NOT_GAP)])) _
    exact retA X1 hx Bd.returns rfl rfl rfl (hb hby d3_62) hr
  · show own_QP (some (.ref w_S_REC_NOT_GAP)) n0 h0 _ T1.heap _
    rw [e1]
    exact ⟨rfl, N0, rfl⟩
set_option maxRecDepth 65536 in
set_option maxHeartbeats 40000000 in
theorem rm1_5 (l : Launch) (Z : State) (a0 : Array Value) (hw : ∀ d ∈ tables_1, d.before a0 Z = true) (p1 : Int32) (h0 : Heap) (n0 : Nat) (O0 : Old Z n0 h0) (P1 : ((p1 &&& (2147483647 : Int32)) % (7 : Int32)) = (5 : Int32)) :
    MetFree l (⟨"com/example/key_warden/keywarden/engine/LockModeConflictsWithPinLaw", "pick", "(II)I"⟩ : MethodName) (head1 [Jvm.Cond.code (⟨"com/example/key_warden/keywarden/engine/LockModeConflictsWithPinLaw", "pick", "(II)I"⟩ : MethodName) method_2_code 4 (some .int)] ({ frames := 0, cells := 0, slots := 0, locals := 0 } : Room)) (fun a U => a = #[(.int (0 : Int32)), (.int p1)] ∧ Z.Warmed39 U.vm ∧ U.heap = h0) (fun _ _ _ _ _ => True) (fun _ U o U' => ∃ v L, o = .returned v ∧ own_QP (some (.int (7 : Int32))) n0 h0 v U'.heap L ∧ FrameEnd U o U' L ({ frames := 0, cells := 0, slots := 0, locals := 0 } : Room).cells ({ frames := 0, cells := 0, slots := 0, locals := 0 } : Room).slots) := by
  refine MetFree.of_bodySF (plainFor_of_name pn_4) hisR ?_
  intro p e s m args below meth c s₁ Bd hml0 hP hK
  obtain ⟨rfl, hZ, hh⟩ := hP
  have hx := Bd.exec
  have hby := Bd.bytes
  have hml : c.maxLocals = 4 := hml0
  have hown : s.vm.findClass "com/example/key_warden/keywarden/engine/LockModeConflictsWithPinLaw" = some m.cls := findClass_of_methodNamed Bd.named
  have hnm := (name_of_methodNamed Bd.named Bd.method).1
  have X0 : Stand p l e ({ frames := 0, cells := 0, slots := 0, locals := 0 } : Room) s m #[(.int (0 : Int32)), (.int p1)] below meth c s₁ [] 0 0 := Stand.of_body Bd
  have e0 : s₁.heap = h0 := by rw [← hh, Bd.state]; rfl
  have N0 := Fr.nil n0
  have pre0 : ∀ t, Steps p.tables e below (s₁.setTop (mkF m 0 #[.val (.int (0 : Int32)), .val (.int p1), .unset, .unset] [])) t → Steps p.tables e below (s₁.setTop (entryFrame m #[(.int (0 : Int32)), (.int p1)] 4)) t := fun t k => castTop (ef_1_II m (0 : Int32) p1) k
  obtain ⟨fs, hr, hrun, hended, hW, hsame⟩ := X0.leave (v := (some (.int (7 : Int32)))) (fun h => by rw [Bd.returns] at h; cases h)
  refine ⟨_, _, pre0 _ ?_, hrun, hended, _, _, rfl, ?_, ⟨_, rfl⟩, hW, hsame.mono (by decide) (by decide)⟩
  · show Steps p.tables e below (s₁.setTop (mkF m 0 #[.val (.int (0 : Int32)), .val (.int p1), .unset, .unset] [])) _
    refine XS.iloadN X0.here hx rfl (hb hby d1_0) rfl ?_
    show Steps p.tables e below (s₁.setTop (mkF m 1 #[.val (.int (0 : Int32)), .val (.int p1), .unset, .unset] [(.int p1)])) _
    refine X0.ldcInt hx hown (mvT hZ (hw _ (List.mem_of_getElem? (i := 4) rfl))) (g := (mkF m 1 #[.val (.int (0 : Int32)), .val (.int p1), .unset, .unset] [(.int p1)])) rfl (hb hby d1_1) _ ?_
    show Steps p.tables e below (s₁.setTop (mkF m 3 #[.val (.int (0 : Int32)), .val (.int p1), .unset, .unset] [(.int (2147483647 : Int32)), (.int p1)])) _
    refine XS.iand X0.here hx rfl (hb hby d1_3) rfl ?_
    show Steps p.tables e below (s₁.setTop (mkF m 4 #[.val (.int (0 : Int32)), .val (.int p1), .unset, .unset] [(.int (p1 &&& (2147483647 : Int32)))])) _
    refine XS.istoreN X0.here hx rfl (hb hby d1_4) rfl (l' := #[.val (.int (0 : Int32)), .val (.int p1), .val (.int (p1 &&& (2147483647 : Int32))), .unset]) rfl ?_
    show Steps p.tables e below (s₁.setTop (mkF m 5 #[.val (.int (0 : Int32)), .val (.int p1), .val (.int (p1 &&& (2147483647 : Int32))), .unset] [])) _
    refine XS.iloadN X0.here hx rfl (hb hby d1_5) rfl ?_
    show Steps p.tables e below (s₁.setTop (mkF m 6 #[.val (.int (0 : Int32)), .val (.int p1), .val (.int (p1 &&& (2147483647 : Int32))), .unset] [(.int (0 : Int32))])) _
    refine XS.ifYes X0.here hx rfl (pc0 := 6) (pc' := 23) rfl (hb hby d1_6) rfl (by decide) (by decide) (by decide) ?_
    show Steps p.tables e below (s₁.setTop (mkF m 23 #[.val (.int (0 : Int32)), .val (.int p1), .val (.int (p1 &&& (2147483647 : Int32))), .unset] [])) _
    refine XS.iconst X0.here hx rfl (hb hby d1_23) ?_
    show Steps p.tables e below (s₁.setTop (mkF m 24 #[.val (.int (0 : Int32)), .val (.int p1), .val (.int (p1 &&& (2147483647 : Int32))), .unset] [(.int (2 : Int32))])) _
    refine XS.iloadN X0.here hx rfl (hb hby d1_24) rfl ?_
    show Steps p.tables e below (s₁.setTop (mkF m 25 #[.val (.int (0 : Int32)), .val (.int p1), .val (.int (p1 &&& (2147483647 : Int32))), .unset] [(.int (p1 &&& (2147483647 : Int32))), (.int (2 : Int32))])) _
    refine XS.bipush X0.here hx rfl (hb hby d1_25) ?_
    show Steps p.tables e below (s₁.setTop (mkF m 27 #[.val (.int (0 : Int32)), .val (.int p1), .val (.int (p1 &&& (2147483647 : Int32))), .unset] [(.int (7 : Int32)), (.int (p1 &&& (2147483647 : Int32))), (.int (2 : Int32))])) _
    refine iremM (g := (mkF m 27 #[.val (.int (0 : Int32)), .val (.int p1), .val (.int (p1 &&& (2147483647 : Int32))), .unset] [(.int (7 : Int32)), (.int (p1 &&& (2147483647 : Int32))), (.int (2 : Int32))])) X0 hx rfl (hb hby d1_27) rfl (by decide) ?_
    show Steps p.tables e below (s₁.setTop (mkF m 28 #[.val (.int (0 : Int32)), .val (.int p1), .val (.int (p1 &&& (2147483647 : Int32))), .unset] [(.int ((p1 &&& (2147483647 : Int32)) % (7 : Int32))), (.int (2 : Int32))])) _
    rw [P1]
    show Steps p.tables e below (s₁.setTop (mkF m 28 #[.val (.int (0 : Int32)), .val (.int p1), .val (.int (p1 &&& (2147483647 : Int32))), .unset] [(.int (5 : Int32)), (.int (2 : Int32))])) _
    refine XS.iadd X0.here hx rfl (hb hby d1_28) rfl ?_
    show Steps p.tables e below (s₁.setTop (mkF m 29 #[.val (.int (0 : Int32)), .val (.int p1), .val (.int (p1 &&& (2147483647 : Int32))), .unset] [(.int ((2 : Int32) + (5 : Int32)))])) _
    rw [fo_5]
    show Steps p.tables e below (s₁.setTop (mkF m 29 #[.val (.int (0 : Int32)), .val (.int p1), .val (.int (p1 &&& (2147483647 : Int32))), .unset] [(.int (7 : Int32))])) _
    exact retI X0 hx Bd.returns (hb hby d1_29) hr
  · show own_QP (some (.int (7 : Int32))) n0 h0 _ s₁.heap _
    rw [e0]
    exact ⟨rfl, N0, rfl⟩
set_option maxRecDepth 65536 in
set_option maxHeartbeats 40000000 in
theorem rm3_5 (l : Launch) (Z : State) (a0 : Array Value) (hw : ∀ d ∈ tables_1, d.before a0 Z = true) (w_S_GAP : Addr) (h0 : Heap) (n0 : Nat) (O0 : Old Z n0 h0) (P1 : Sta Z Z.heap "com/example/key_warden/keywarden/engine/LockMode" "S_GAP" "Lcom/example/key_warden/keywarden/engine/LockMode;" (.ref w_S_GAP)) :
    MetFree l (⟨"com/example/key_warden/keywarden/engine/LockModeConflictsWithPinLaw", "mode", "(I)Lcom/example/key_warden/keywarden/engine/LockMode;"⟩ : MethodName) (head1 [Jvm.Cond.code (⟨"com/example/key_warden/keywarden/engine/LockModeConflictsWithPinLaw", "mode", "(I)Lcom/example/key_warden/keywarden/engine/LockMode;"⟩ : MethodName) method_3_code 1 (some (.object "com/example/key_warden/keywarden/engine/LockMode"))] ({ frames := 0, cells := 0, slots := 0, locals := 0 } : Room)) (fun a U => a = #[(.int (7 : Int32))] ∧ Z.Warmed39 U.vm ∧ U.heap = h0) (fun _ _ _ _ _ => True) (fun _ U o U' => ∃ v L, o = .returned v ∧ own_QP (some (.ref w_S_GAP)) n0 h0 v U'.heap L ∧ FrameEnd U o U' L ({ frames := 0, cells := 0, slots := 0, locals := 0 } : Room).cells ({ frames := 0, cells := 0, slots := 0, locals := 0 } : Room).slots) := by
  refine MetFree.of_bodySF (plainFor_of_name pn_4) hisR ?_
  intro p e s m args below meth c s₁ Bd hml0 hP hK
  obtain ⟨rfl, hZ, hh⟩ := hP
  have hx := Bd.exec
  have hby := Bd.bytes
  have hml : c.maxLocals = 1 := hml0
  have hown : s.vm.findClass "com/example/key_warden/keywarden/engine/LockModeConflictsWithPinLaw" = some m.cls := findClass_of_methodNamed Bd.named
  have hnm := (name_of_methodNamed Bd.named Bd.method).1
  have X0 : Stand p l e ({ frames := 0, cells := 0, slots := 0, locals := 0 } : Room) s m #[(.int (7 : Int32))] below meth c s₁ [] 0 0 := Stand.of_body Bd
  have e0 : s₁.heap = h0 := by rw [← hh, Bd.state]; rfl
  have N0 := Fr.nil n0
  have pre0 : ∀ t, Steps p.tables e below (s₁.setTop (mkF m 0 #[.val (.int (7 : Int32))] [])) t → Steps p.tables e below (s₁.setTop (entryFrame m #[(.int (7 : Int32))] 1)) t := fun t k => castTop (ef_3_I m (7 : Int32)) k
  obtain ⟨T1, X1, e1, st1⟩ := getS2 X0 hx hZ hown (host := "") (Or.inl (hw _ (List.mem_of_getElem? (i := 43) rfl))) Via.refl e0 (P1.ext O0.2) (g := (mkF m 69 #[.val (.int (7 : Int32))] [])) rfl (hb hby d3_69)
  obtain ⟨fs, hr, hrun, hended, hW, hsame⟩ := X1.leave (v := (some (.ref w_S_GAP))) (fun h => by rw [Bd.returns] at h; cases h)
  refine ⟨_, _, pre0 _ ?_, hrun, hended, _, _, rfl, ?_, ⟨_, rfl⟩, hW, hsame.mono (by decide) (by decide)⟩
  · show Steps p.tables e below (s₁.setTop (mkF m 0 #[.val (.int (7 : Int32))] [])) _
    refine XS.iloadN X0.here hx rfl (hb hby d3_0) rfl ?_
    show Steps p.tables e below (s₁.setTop (mkF m 1 #[.val (.int (7 : Int32))] [(.int (7 : Int32))])) _
    refine XS.ifYes X0.here hx rfl (pc0 := 1) (pc' := 8) rfl (hb hby d3_1) rfl (by decide) (by decide) (by decide) ?_
    show Steps p.tables e below (s₁.setTop (mkF m 8 #[.val (.int (7 : Int32))] [])) _
    refine XS.iloadN X0.here hx rfl (hb hby d3_8) rfl ?_
    show Steps p.tables e below (s₁.setTop (mkF m 9 #[.val (.int (7 : Int32))] [(.int (7 : Int32))])) _
    refine XS.iconst X0.here hx rfl (hb hby d3_9) ?_
    show Steps p.tables e below (s₁.setTop (mkF m 10 #[.val (.int (7 : Int32))] [(.int (1 : Int32)), (.int (7 : Int32))])) _
    refine XS.icmpYes X0.here hx rfl (pc0 := 10) (pc' := 17) rfl (hb hby d3_10) rfl (by decide) (by decide) (by decide) ?_
    show Steps p.tables e below (s₁.setTop (mkF m 17 #[.val (.int (7 : Int32))] [])) _
    refine XS.iloadN X0.here hx rfl (hb hby d3_17) rfl ?_
    show Steps p.tables e below (s₁.setTop (mkF m 18 #[.val (.int (7 : Int32))] [(.int (7 : Int32))])) _
    refine XS.iconst X0.here hx rfl (hb hby d3_18) ?_
    show Steps p.tables e below (s₁.setTop (mkF m 19 #[.val (.int (7 : Int32))] [(.int (2 : Int32)), (.int (7 : Int32))])) _
    refine XS.icmpYes X0.here hx rfl (pc0 := 19) (pc' := 26) rfl (hb hby d3_19) rfl (by decide) (by decide) (by decide) ?_
    show Steps p.tables e below (s₁.setTop (mkF m 26 #[.val (.int (7 : Int32))] [])) _
    refine XS.iloadN X0.here hx rfl (hb hby d3_26) rfl ?_
    show Steps p.tables e below (s₁.setTop (mkF m 27 #[.val (.int (7 : Int32))] [(.int (7 : Int32))])) _
    refine XS.iconst X0.here hx rfl (hb hby d3_27) ?_
    show Steps p.tables e below (s₁.setTop (mkF m 28 #[.val (.int (7 : Int32))] [(.int (3 : Int32)), (.int (7 : Int32))])) _
    refine XS.icmpYes X0.here hx rfl (pc0 := 28) (pc' := 35) rfl (hb hby d3_28) rfl (by decide) (by decide) (by decide) ?_
    show Steps p.tables e below (s₁.setTop (mkF m 35 #[.val (.int (7 : Int32))] [])) _
    refine XS.iloadN X0.here hx rfl (hb hby d3_35) rfl ?_
    show Steps p.tables e below (s₁.setTop (mkF m 36 #[.val (.int (7 : Int32))] [(.int (7 : Int32))])) _
    refine XS.iconst X0.here hx rfl (hb hby d3_36) ?_
    show Steps p.tables e below (s₁.setTop (mkF m 37 #[.val (.int (7 : Int32))] [(.int (4 : Int32)), (.int (7 : Int32))])) _
    refine XS.icmpYes X0.here hx rfl (pc0 := 37) (pc' := 44) rfl (hb hby d3_37) rfl (by decide) (by decide) (by decide) ?_
    show Steps p.tables e below (s₁.setTop (mkF m 44 #[.val (.int (7 : Int32))] [])) _
    refine XS.iloadN X0.here hx rfl (hb hby d3_44) rfl ?_
    show Steps p.tables e below (s₁.setTop (mkF m 45 #[.val (.int (7 : Int32))] [(.int (7 : Int32))])) _
    refine XS.iconst X0.here hx rfl (hb hby d3_45) ?_
    show Steps p.tables e below (s₁.setTop (mkF m 46 #[.val (.int (7 : Int32))] [(.int (5 : Int32)), (.int (7 : Int32))])) _
    refine XS.icmpYes X0.here hx rfl (pc0 := 46) (pc' := 53) rfl (hb hby d3_46) rfl (by decide) (by decide) (by decide) ?_
    show Steps p.tables e below (s₁.setTop (mkF m 53 #[.val (.int (7 : Int32))] [])) _
    refine XS.iloadN X0.here hx rfl (hb hby d3_53) rfl ?_
    show Steps p.tables e below (s₁.setTop (mkF m 54 #[.val (.int (7 : Int32))] [(.int (7 : Int32))])) _
    refine XS.bipush X0.here hx rfl (hb hby d3_54) ?_
    show Steps p.tables e below (s₁.setTop (mkF m 56 #[.val (.int (7 : Int32))] [(.int (6 : Int32)), (.int (7 : Int32))])) _
    refine XS.icmpYes X0.here hx rfl (pc0 := 56) (pc' := 63) rfl (hb hby d3_56) rfl (by decide) (by decide) (by decide) ?_
    show Steps p.tables e below (s₁.setTop (mkF m 63 #[.val (.int (7 : Int32))] [])) _
    refine XS.iloadN X0.here hx rfl (hb hby d3_63) rfl ?_
    show Steps p.tables e below (s₁.setTop (mkF m 64 #[.val (.int (7 : Int32))] [(.int (7 : Int32))])) _
    refine XS.bipush X0.here hx rfl (hb hby d3_64) ?_
    show Steps p.tables e below (s₁.setTop (mkF m 66 #[.val (.int (7 : Int32))] [(.int (7 : Int32)), (.int (7 : Int32))])) _
    refine XS.icmpNo X0.here hx rfl (hb hby d3_66) rfl (by decide) ?_
    show Steps p.tables e below (s₁.setTop (mkF m 69 #[.val (.int (7 : Int32))] [])) _
    refine st1 _ ?_
    show Steps p.tables e below (T1.setTop (mkF m 72 #[.val (.int (7 : Int32))] [(.ref w_S_GAP)])) _
    exact retA X1 hx Bd.returns rfl rfl rfl (hb hby d3_72) hr
  · show own_QP (some (.ref w_S_GAP)) n0 h0 _ T1.heap _
    rw [e1]
    exact ⟨rfl, N0, rfl⟩
set_option maxRecDepth 65536 in
set_option maxHeartbeats 40000000 in
theorem rm1_6 (l : Launch) (Z : State) (a0 : Array Value) (hw : ∀ d ∈ tables_1, d.before a0 Z = true) (p1 : Int32) (h0 : Heap) (n0 : Nat) (O0 : Old Z n0 h0) (P1 : ((p1 &&& (2147483647 : Int32)) % (7 : Int32)) = (6 : Int32)) :
    MetFree l (⟨"com/example/key_warden/keywarden/engine/LockModeConflictsWithPinLaw", "pick", "(II)I"⟩ : MethodName) (head1 [Jvm.Cond.code (⟨"com/example/key_warden/keywarden/engine/LockModeConflictsWithPinLaw", "pick", "(II)I"⟩ : MethodName) method_2_code 4 (some .int)] ({ frames := 0, cells := 0, slots := 0, locals := 0 } : Room)) (fun a U => a = #[(.int (0 : Int32)), (.int p1)] ∧ Z.Warmed39 U.vm ∧ U.heap = h0) (fun _ _ _ _ _ => True) (fun _ U o U' => ∃ v L, o = .returned v ∧ own_QP (some (.int (8 : Int32))) n0 h0 v U'.heap L ∧ FrameEnd U o U' L ({ frames := 0, cells := 0, slots := 0, locals := 0 } : Room).cells ({ frames := 0, cells := 0, slots := 0, locals := 0 } : Room).slots) := by
  refine MetFree.of_bodySF (plainFor_of_name pn_4) hisR ?_
  intro p e s m args below meth c s₁ Bd hml0 hP hK
  obtain ⟨rfl, hZ, hh⟩ := hP
  have hx := Bd.exec
  have hby := Bd.bytes
  have hml : c.maxLocals = 4 := hml0
  have hown : s.vm.findClass "com/example/key_warden/keywarden/engine/LockModeConflictsWithPinLaw" = some m.cls := findClass_of_methodNamed Bd.named
  have hnm := (name_of_methodNamed Bd.named Bd.method).1
  have X0 : Stand p l e ({ frames := 0, cells := 0, slots := 0, locals := 0 } : Room) s m #[(.int (0 : Int32)), (.int p1)] below meth c s₁ [] 0 0 := Stand.of_body Bd
  have e0 : s₁.heap = h0 := by rw [← hh, Bd.state]; rfl
  have N0 := Fr.nil n0
  have pre0 : ∀ t, Steps p.tables e below (s₁.setTop (mkF m 0 #[.val (.int (0 : Int32)), .val (.int p1), .unset, .unset] [])) t → Steps p.tables e below (s₁.setTop (entryFrame m #[(.int (0 : Int32)), (.int p1)] 4)) t := fun t k => castTop (ef_1_II m (0 : Int32) p1) k
  obtain ⟨fs, hr, hrun, hended, hW, hsame⟩ := X0.leave (v := (some (.int (8 : Int32)))) (fun h => by rw [Bd.returns] at h; cases h)
  refine ⟨_, _, pre0 _ ?_, hrun, hended, _, _, rfl, ?_, ⟨_, rfl⟩, hW, hsame.mono (by decide) (by decide)⟩
  · show Steps p.tables e below (s₁.setTop (mkF m 0 #[.val (.int (0 : Int32)), .val (.int p1), .unset, .unset] [])) _
    refine XS.iloadN X0.here hx rfl (hb hby d1_0) rfl ?_
    show Steps p.tables e below (s₁.setTop (mkF m 1 #[.val (.int (0 : Int32)), .val (.int p1), .unset, .unset] [(.int p1)])) _
    refine X0.ldcInt hx hown (mvT hZ (hw _ (List.mem_of_getElem? (i := 4) rfl))) (g := (mkF m 1 #[.val (.int (0 : Int32)), .val (.int p1), .unset, .unset] [(.int p1)])) rfl (hb hby d1_1) _ ?_
    show Steps p.tables e below (s₁.setTop (mkF m 3 #[.val (.int (0 : Int32)), .val (.int p1), .unset, .unset] [(.int (2147483647 : Int32)), (.int p1)])) _
    refine XS.iand X0.here hx rfl (hb hby d1_3) rfl ?_
    show Steps p.tables e below (s₁.setTop (mkF m 4 #[.val (.int (0 : Int32)), .val (.int p1), .unset, .unset] [(.int (p1 &&& (2147483647 : Int32)))])) _
    refine XS.istoreN X0.here hx rfl (hb hby d1_4) rfl (l' := #[.val (.int (0 : Int32)), .val (.int p1), .val (.int (p1 &&& (2147483647 : Int32))), .unset]) rfl ?_
    show Steps p.tables e below (s₁.setTop (mkF m 5 #[.val (.int (0 : Int32)), .val (.int p1), .val (.int (p1 &&& (2147483647 : Int32))), .unset] [])) _
    refine XS.iloadN X0.here hx rfl (hb hby d1_5) rfl ?_
    show Steps p.tables e below (s₁.setTop (mkF m 6 #[.val (.int (0 : Int32)), .val (.int p1), .val (.int (p1 &&& (2147483647 : Int32))), .unset] [(.int (0 : Int32))])) _
    refine XS.ifYes X0.here hx rfl (pc0 := 6) (pc' := 23) rfl (hb hby d1_6) rfl (by decide) (by decide) (by decide) ?_
    show Steps p.tables e below (s₁.setTop (mkF m 23 #[.val (.int (0 : Int32)), .val (.int p1), .val (.int (p1 &&& (2147483647 : Int32))), .unset] [])) _
    refine XS.iconst X0.here hx rfl (hb hby d1_23) ?_
    show Steps p.tables e below (s₁.setTop (mkF m 24 #[.val (.int (0 : Int32)), .val (.int p1), .val (.int (p1 &&& (2147483647 : Int32))), .unset] [(.int (2 : Int32))])) _
    refine XS.iloadN X0.here hx rfl (hb hby d1_24) rfl ?_
    show Steps p.tables e below (s₁.setTop (mkF m 25 #[.val (.int (0 : Int32)), .val (.int p1), .val (.int (p1 &&& (2147483647 : Int32))), .unset] [(.int (p1 &&& (2147483647 : Int32))), (.int (2 : Int32))])) _
    refine XS.bipush X0.here hx rfl (hb hby d1_25) ?_
    show Steps p.tables e below (s₁.setTop (mkF m 27 #[.val (.int (0 : Int32)), .val (.int p1), .val (.int (p1 &&& (2147483647 : Int32))), .unset] [(.int (7 : Int32)), (.int (p1 &&& (2147483647 : Int32))), (.int (2 : Int32))])) _
    refine iremM (g := (mkF m 27 #[.val (.int (0 : Int32)), .val (.int p1), .val (.int (p1 &&& (2147483647 : Int32))), .unset] [(.int (7 : Int32)), (.int (p1 &&& (2147483647 : Int32))), (.int (2 : Int32))])) X0 hx rfl (hb hby d1_27) rfl (by decide) ?_
    show Steps p.tables e below (s₁.setTop (mkF m 28 #[.val (.int (0 : Int32)), .val (.int p1), .val (.int (p1 &&& (2147483647 : Int32))), .unset] [(.int ((p1 &&& (2147483647 : Int32)) % (7 : Int32))), (.int (2 : Int32))])) _
    rw [P1]
    show Steps p.tables e below (s₁.setTop (mkF m 28 #[.val (.int (0 : Int32)), .val (.int p1), .val (.int (p1 &&& (2147483647 : Int32))), .unset] [(.int (6 : Int32)), (.int (2 : Int32))])) _
    refine XS.iadd X0.here hx rfl (hb hby d1_28) rfl ?_
    show Steps p.tables e below (s₁.setTop (mkF m 29 #[.val (.int (0 : Int32)), .val (.int p1), .val (.int (p1 &&& (2147483647 : Int32))), .unset] [(.int ((2 : Int32) + (6 : Int32)))])) _
    rw [fo_6]
    show Steps p.tables e below (s₁.setTop (mkF m 29 #[.val (.int (0 : Int32)), .val (.int p1), .val (.int (p1 &&& (2147483647 : Int32))), .unset] [(.int (8 : Int32))])) _
    exact retI X0 hx Bd.returns (hb hby d1_29) hr
  · show own_QP (some (.int (8 : Int32))) n0 h0 _ s₁.heap _
    rw [e0]
    exact ⟨rfl, N0, rfl⟩
set_option maxRecDepth 65536 in
set_option maxHeartbeats 40000000 in
theorem rm3_6 (l : Launch) (Z : State) (a0 : Array Value) (hw : ∀ d ∈ tables_1, d.before a0 Z = true) (w_X_INSERT_INTENTION : Addr) (h0 : Heap) (n0 : Nat) (O0 : Old Z n0 h0) (P1 : Sta Z Z.heap "com/example/key_warden/keywarden/engine/LockMode" "X_INSERT_INTENTION" "Lcom/example/key_warden/keywarden/engine/LockMode;" (.ref w_X_INSERT_INTENTION)) :
    MetFree l (⟨"com/example/key_warden/keywarden/engine/LockModeConflictsWithPinLaw", "mode", "(I)Lcom/example/key_warden/keywarden/engine/LockMode;"⟩ : MethodName) (head1 [Jvm.Cond.code (⟨"com/example/key_warden/keywarden/engine/LockModeConflictsWithPinLaw", "mode", "(I)Lcom/example/key_warden/keywarden/engine/LockMode;"⟩ : MethodName) method_3_code 1 (some (.object "com/example/key_warden/keywarden/engine/LockMode"))] ({ frames := 0, cells := 0, slots := 0, locals := 0 } : Room)) (fun a U => a = #[(.int (8 : Int32))] ∧ Z.Warmed39 U.vm ∧ U.heap = h0) (fun _ _ _ _ _ => True) (fun _ U o U' => ∃ v L, o = .returned v ∧ own_QP (some (.ref w_X_INSERT_INTENTION)) n0 h0 v U'.heap L ∧ FrameEnd U o U' L ({ frames := 0, cells := 0, slots := 0, locals := 0 } : Room).cells ({ frames := 0, cells := 0, slots := 0, locals := 0 } : Room).slots) := by
  refine MetFree.of_bodySF (plainFor_of_name pn_4) hisR ?_
  intro p e s m args below meth c s₁ Bd hml0 hP hK
  obtain ⟨rfl, hZ, hh⟩ := hP
  have hx := Bd.exec
  have hby := Bd.bytes
  have hml : c.maxLocals = 1 := hml0
  have hown : s.vm.findClass "com/example/key_warden/keywarden/engine/LockModeConflictsWithPinLaw" = some m.cls := findClass_of_methodNamed Bd.named
  have hnm := (name_of_methodNamed Bd.named Bd.method).1
  have X0 : Stand p l e ({ frames := 0, cells := 0, slots := 0, locals := 0 } : Room) s m #[(.int (8 : Int32))] below meth c s₁ [] 0 0 := Stand.of_body Bd
  have e0 : s₁.heap = h0 := by rw [← hh, Bd.state]; rfl
  have N0 := Fr.nil n0
  have pre0 : ∀ t, Steps p.tables e below (s₁.setTop (mkF m 0 #[.val (.int (8 : Int32))] [])) t → Steps p.tables e below (s₁.setTop (entryFrame m #[(.int (8 : Int32))] 1)) t := fun t k => castTop (ef_3_I m (8 : Int32)) k
  obtain ⟨T1, X1, e1, st1⟩ := getS2 X0 hx hZ hown (host := "") (Or.inl (hw _ (List.mem_of_getElem? (i := 45) rfl))) Via.refl e0 (P1.ext O0.2) (g := (mkF m 79 #[.val (.int (8 : Int32))] [])) rfl (hb hby d3_79)
  obtain ⟨fs, hr, hrun, hended, hW, hsame⟩ := X1.leave (v := (some (.ref w_X_INSERT_INTENTION))) (fun h => by rw [Bd.returns] at h; cases h)
  refine ⟨_, _, pre0 _ ?_, hrun, hended, _, _, rfl, ?_, ⟨_, rfl⟩, hW, hsame.mono (by decide) (by decide)⟩
  · show Steps p.tables e below (s₁.setTop (mkF m 0 #[.val (.int (8 : Int32))] [])) _
    refine XS.iloadN X0.here hx rfl (hb hby d3_0) rfl ?_
    show Steps p.tables e below (s₁.setTop (mkF m 1 #[.val (.int (8 : Int32))] [(.int (8 : Int32))])) _
    refine XS.ifYes X0.here hx rfl (pc0 := 1) (pc' := 8) rfl (hb hby d3_1) rfl (by decide) (by decide) (by decide) ?_
    show Steps p.tables e below (s₁.setTop (mkF m 8 #[.val (.int (8 : Int32))] [])) _
    refine XS.iloadN X0.here hx rfl (hb hby d3_8) rfl ?_
    show Steps p.tables e below (s₁.setTop (mkF m 9 #[.val (.int (8 : Int32))] [(.int (8 : Int32))])) _
    refine XS.iconst X0.here hx rfl (hb hby d3_9) ?_
    show Steps p.tables e below (s₁.setTop (mkF m 10 #[.val (.int (8 : Int32))] [(.int (1 : Int32)), (.int (8 : Int32))])) _
    refine XS.icmpYes X0.here hx rfl (pc0 := 10) (pc' := 17) rfl (hb hby d3_10) rfl (by decide) (by decide) (by decide) ?_
    show Steps p.tables e below (s₁.setTop (mkF m 17 #[.val (.int (8 : Int32))] [])) _
    refine XS.iloadN X0.here hx rfl (hb hby d3_17) rfl ?_
    show Steps p.tables e below (s₁.setTop (mkF m 18 #[.val (.int (8 : Int32))] [(.int (8 : Int32))])) _
    refine XS.iconst X0.here hx rfl (hb hby d3_18) ?_
    show Steps p.tables e below (s₁.setTop (mkF m 19 #[.val (.int (8 : Int32))] [(.int (2 : Int32)), (.int (8 : Int32))])) _
    refine XS.icmpYes X0.here hx rfl (pc0 := 19) (pc' := 26) rfl (hb hby d3_19) rfl (by decide) (by decide) (by decide) ?_
    show Steps p.tables e below (s₁.setTop (mkF m 26 #[.val (.int (8 : Int32))] [])) _
    refine XS.iloadN X0.here hx rfl (hb hby d3_26) rfl ?_
    show Steps p.tables e below (s₁.setTop (mkF m 27 #[.val (.int (8 : Int32))] [(.int (8 : Int32))])) _
    refine XS.iconst X0.here hx rfl (hb hby d3_27) ?_
    show Steps p.tables e below (s₁.setTop (mkF m 28 #[.val (.int (8 : Int32))] [(.int (3 : Int32)), (.int (8 : Int32))])) _
    refine XS.icmpYes X0.here hx rfl (pc0 := 28) (pc' := 35) rfl (hb hby d3_28) rfl (by decide) (by decide) (by decide) ?_
    show Steps p.tables e below (s₁.setTop (mkF m 35 #[.val (.int (8 : Int32))] [])) _
    refine XS.iloadN X0.here hx rfl (hb hby d3_35) rfl ?_
    show Steps p.tables e below (s₁.setTop (mkF m 36 #[.val (.int (8 : Int32))] [(.int (8 : Int32))])) _
    refine XS.iconst X0.here hx rfl (hb hby d3_36) ?_
    show Steps p.tables e below (s₁.setTop (mkF m 37 #[.val (.int (8 : Int32))] [(.int (4 : Int32)), (.int (8 : Int32))])) _
    refine XS.icmpYes X0.here hx rfl (pc0 := 37) (pc' := 44) rfl (hb hby d3_37) rfl (by decide) (by decide) (by decide) ?_
    show Steps p.tables e below (s₁.setTop (mkF m 44 #[.val (.int (8 : Int32))] [])) _
    refine XS.iloadN X0.here hx rfl (hb hby d3_44) rfl ?_
    show Steps p.tables e below (s₁.setTop (mkF m 45 #[.val (.int (8 : Int32))] [(.int (8 : Int32))])) _
    refine XS.iconst X0.here hx rfl (hb hby d3_45) ?_
    show Steps p.tables e below (s₁.setTop (mkF m 46 #[.val (.int (8 : Int32))] [(.int (5 : Int32)), (.int (8 : Int32))])) _
    refine XS.icmpYes X0.here hx rfl (pc0 := 46) (pc' := 53) rfl (hb hby d3_46) rfl (by decide) (by decide) (by decide) ?_
    show Steps p.tables e below (s₁.setTop (mkF m 53 #[.val (.int (8 : Int32))] [])) _
    refine XS.iloadN X0.here hx rfl (hb hby d3_53) rfl ?_
    show Steps p.tables e below (s₁.setTop (mkF m 54 #[.val (.int (8 : Int32))] [(.int (8 : Int32))])) _
    refine XS.bipush X0.here hx rfl (hb hby d3_54) ?_
    show Steps p.tables e below (s₁.setTop (mkF m 56 #[.val (.int (8 : Int32))] [(.int (6 : Int32)), (.int (8 : Int32))])) _
    refine XS.icmpYes X0.here hx rfl (pc0 := 56) (pc' := 63) rfl (hb hby d3_56) rfl (by decide) (by decide) (by decide) ?_
    show Steps p.tables e below (s₁.setTop (mkF m 63 #[.val (.int (8 : Int32))] [])) _
    refine XS.iloadN X0.here hx rfl (hb hby d3_63) rfl ?_
    show Steps p.tables e below (s₁.setTop (mkF m 64 #[.val (.int (8 : Int32))] [(.int (8 : Int32))])) _
    refine XS.bipush X0.here hx rfl (hb hby d3_64) ?_
    show Steps p.tables e below (s₁.setTop (mkF m 66 #[.val (.int (8 : Int32))] [(.int (7 : Int32)), (.int (8 : Int32))])) _
    refine XS.icmpYes X0.here hx rfl (pc0 := 66) (pc' := 73) rfl (hb hby d3_66) rfl (by decide) (by decide) (by decide) ?_
    show Steps p.tables e below (s₁.setTop (mkF m 73 #[.val (.int (8 : Int32))] [])) _
    refine XS.iloadN X0.here hx rfl (hb hby d3_73) rfl ?_
    show Steps p.tables e below (s₁.setTop (mkF m 74 #[.val (.int (8 : Int32))] [(.int (8 : Int32))])) _
    refine XS.bipush X0.here hx rfl (hb hby d3_74) ?_
    show Steps p.tables e below (s₁.setTop (mkF m 76 #[.val (.int (8 : Int32))] [(.int (8 : Int32)), (.int (8 : Int32))])) _
    refine XS.icmpNo X0.here hx rfl (hb hby d3_76) rfl (by decide) ?_
    show Steps p.tables e below (s₁.setTop (mkF m 79 #[.val (.int (8 : Int32))] [])) _
    refine st1 _ ?_
    show Steps p.tables e below (T1.setTop (mkF m 82 #[.val (.int (8 : Int32))] [(.ref w_X_INSERT_INTENTION)])) _
    exact retA X1 hx Bd.returns rfl rfl rfl (hb hby d3_82) hr
  · show own_QP (some (.ref w_X_INSERT_INTENTION)) n0 h0 _ T1.heap _
    rw [e1]
    exact ⟨rfl, N0, rfl⟩
set_option maxRecDepth 65536 in
set_option maxHeartbeats 40000000 in
theorem rm4_3 (l : Launch) (Z : State) (a0 : Array Value) (hw : ∀ d ∈ tables_1, d.before a0 Z = true) (r1 : Addr) (r2 : Addr) (h0 : Heap) (n0 : Nat) (O0 : Old Z n0 h0) (P1 : Fld Z h0 r1 "com/example/key_warden/keywarden/engine/LockMode" "intention" "Z" (.int (0 : Int32))) (P2 : Fld Z h0 r1 "com/example/key_warden/keywarden/engine/LockMode" "keyLock" "Z" (.int (0 : Int32))) (P3 : Fld Z h0 r2 "com/example/key_warden/keywarden/engine/LockMode" "keyLock" "Z" (.int (0 : Int32))) (P4 : Fld Z h0 r1 "com/example/key_warden/keywarden/engine/LockMode" "insertIntention" "Z" (.int (0 : Int32))) (P5 : Fld Z h0 r2 "com/example/key_warden/keywarden/engine/LockMode" "insertIntention" "Z" (.int (1 : Int32))) :
    MetFree l (⟨"com/example/key_warden/keywarden/engine/LockMode", "conflictsWith", "(Lcom/example/key_warden/keywarden/engine/LockMode;)Z"⟩ : MethodName) (head1 [Jvm.Cond.code (⟨"com/example/key_warden/keywarden/engine/LockMode", "conflictsWith", "(Lcom/example/key_warden/keywarden/engine/LockMode;)Z"⟩ : MethodName) prog_26_method_6_code 3 (some .boolean)] ({ frames := 0, cells := 0, slots := 0, locals := 0 } : Room)) (fun a U => a = #[(.ref r1), (.ref r2)] ∧ Z.Warmed39 U.vm ∧ U.heap = h0) (fun _ _ _ _ _ => True) (fun _ U o U' => ∃ v L, o = .returned v ∧ own_QP (some (.int (0 : Int32))) n0 h0 v U'.heap L ∧ FrameEnd U o U' L ({ frames := 0, cells := 0, slots := 0, locals := 0 } : Room).cells ({ frames := 0, cells := 0, slots := 0, locals := 0 } : Room).slots) := by
  refine MetFree.of_bodySF (plainFor_of_name pn_9) hisR ?_
  intro p e s m args below meth c s₁ Bd hml0 hP hK
  obtain ⟨rfl, hZ, hh⟩ := hP
  have hx := Bd.exec
  have hby := Bd.bytes
  have hml : c.maxLocals = 3 := hml0
  have hown : s.vm.findClass "com/example/key_warden/keywarden/engine/LockMode" = some m.cls := findClass_of_methodNamed Bd.named
  have hnm := (name_of_methodNamed Bd.named Bd.method).1
  have X0 : Stand p l e ({ frames := 0, cells := 0, slots := 0, locals := 0 } : Room) s m #[(.ref r1), (.ref r2)] below meth c s₁ [] 0 0 := Stand.of_body Bd
  have e0 : s₁.heap = h0 := by rw [← hh, Bd.state]; rfl
  have N0 := Fr.nil n0
  have pre0 : ∀ t, Steps p.tables e below (s₁.setTop (mkF m 0 #[.val (.ref r1), .val (.ref r2), .unset] [])) t → Steps p.tables e below (s₁.setTop (entryFrame m #[(.ref r1), (.ref r2)] 3)) t := fun t k => castTop (ef_4_RR m r1 r2) k
  obtain ⟨T1, X1, e1, st1⟩ := getF X0 hx hZ hown (host := "") (Or.inl (hw _ (List.mem_of_getElem? (i := 21) rfl))) Via.refl e0 P1 (g := (mkF m 1 #[.val (.ref r1), .val (.ref r2), .unset] [(.ref r1)])) rfl rfl (hb hby d4_1)
  obtain ⟨T2, X2, e2, st2⟩ := getF X1 hx hZ hown (host := "") (Or.inl (hw _ (List.mem_of_getElem? (i := 23) rfl))) Via.refl e1 P2 (g := (mkF m 20 #[.val (.ref r1), .val (.ref r2), .unset] [(.ref r1)])) rfl rfl (hb hby d4_20)
  obtain ⟨T3, X3, e3, st3⟩ := getF X2 hx hZ hown (host := "") (Or.inl (hw _ (List.mem_of_getElem? (i := 23) rfl))) Via.refl e2 P3 (g := (mkF m 27 #[.val (.ref r1), .val (.ref r2), .unset] [(.ref r2)])) rfl rfl (hb hby d4_27)
  obtain ⟨T4, X4, e4, st4⟩ := getF X3 hx hZ hown (host := "") (Or.inl (hw _ (List.mem_of_getElem? (i := 25) rfl))) Via.refl e3 P4 (g := (mkF m 57 #[.val (.ref r1), .val (.ref r2), .unset] [(.ref r1)])) rfl rfl (hb hby d4_57)
  obtain ⟨T5, X5, e5, st5⟩ := getF X4 hx hZ hown (host := "") (Or.inl (hw _ (List.mem_of_getElem? (i := 25) rfl))) Via.refl e4 P5 (g := (mkF m 87 #[.val (.ref r1), .val (.ref r2), .unset] [(.ref r2)])) rfl rfl (hb hby d4_87)
  obtain ⟨fs, hr, hrun, hended, hW, hsame⟩ := X5.leave (v := (some (.int (0 : Int32)))) (fun h => by rw [Bd.returns] at h; cases h)
  refine ⟨_, _, pre0 _ ?_, hrun, hended, _, _, rfl, ?_, ⟨_, rfl⟩, hW, hsame.mono (by decide) (by decide)⟩
  · show Steps p.tables e below (s₁.setTop (mkF m 0 #[.val (.ref r1), .val (.ref r2), .unset] [])) _
    refine XS.aloadN X0.here hx rfl (hb hby d4_0) rfl rfl ?_
    show Steps p.tables e below (s₁.setTop (mkF m 1 #[.val (.ref r1), .val (.ref r2), .unset] [(.ref r1)])) _
    refine st1 _ ?_
    show Steps p.tables e below (T1.setTop (mkF m 4 #[.val (.ref r1), .val (.ref r2), .unset] [(.int (0 : Int32))])) _
    refine XS.ifYes X1.here hx rfl (pc0 := 4) (pc' := 19) rfl (hb hby d4_4) rfl (by decide) (by decide) (by decide) ?_
    show Steps p.tables e below (T1.setTop (mkF m 19 #[.val (.ref r1), .val (.ref r2), .unset] [])) _
    refine XS.aloadN X1.here hx rfl (hb hby d4_19) rfl rfl ?_
    show Steps p.tables e below (T1.setTop (mkF m 20 #[.val (.ref r1), .val (.ref r2), .unset] [(.ref r1)])) _
    refine st2 _ ?_
    show Steps p.tables e below (T2.setTop (mkF m 23 #[.val (.ref r1), .val (.ref r2), .unset] [(.int (0 : Int32))])) _
    refine XS.ifNo X2.here hx rfl (hb hby d4_23) rfl (by decide) ?_
    show Steps p.tables e below (T2.setTop (mkF m 26 #[.val (.ref r1), .val (.ref r2), .unset] [])) _
    refine XS.aloadN X2.here hx rfl (hb hby d4_26) rfl rfl ?_
    show Steps p.tables e below (T2.setTop (mkF m 27 #[.val (.ref r1), .val (.ref r2), .unset] [(.ref r2)])) _
    refine st3 _ ?_
    show Steps p.tables e below (T3.setTop (mkF m 30 #[.val (.ref r1), .val (.ref r2), .unset] [(.int (0 : Int32))])) _
    refine XS.ifYes X3.here hx rfl (pc0 := 30) (pc' := 56) rfl (hb hby d4_30) rfl (by decide) (by decide) (by decide) ?_
    show Steps p.tables e below (T3.setTop (mkF m 56 #[.val (.ref r1), .val (.ref r2), .unset] [])) _
    refine XS.aloadN X3.here hx rfl (hb hby d4_56) rfl rfl ?_
    show Steps p.tables e below (T3.setTop (mkF m 57 #[.val (.ref r1), .val (.ref r2), .unset] [(.ref r1)])) _
    refine st4 _ ?_
    show Steps p.tables e below (T4.setTop (mkF m 60 #[.val (.ref r1), .val (.ref r2), .unset] [(.int (0 : Int32))])) _
    refine XS.ifYes X4.here hx rfl (pc0 := 60) (pc' := 86) rfl (hb hby d4_60) rfl (by decide) (by decide) (by decide) ?_
    show Steps p.tables e below (T4.setTop (mkF m 86 #[.val (.ref r1), .val (.ref r2), .unset] [])) _
    refine XS.aloadN X4.here hx rfl (hb hby d4_86) rfl rfl ?_
    show Steps p.tables e below (T4.setTop (mkF m 87 #[.val (.ref r1), .val (.ref r2), .unset] [(.ref r2)])) _
    refine st5 _ ?_
    show Steps p.tables e below (T5.setTop (mkF m 90 #[.val (.ref r1), .val (.ref r2), .unset] [(.int (1 : Int32))])) _
    refine XS.ifNo X5.here hx rfl (hb hby d4_90) rfl (by decide) ?_
    show Steps p.tables e below (T5.setTop (mkF m 93 #[.val (.ref r1), .val (.ref r2), .unset] [])) _
    refine XS.iconst X5.here hx rfl (hb hby d4_93) ?_
    show Steps p.tables e below (T5.setTop (mkF m 94 #[.val (.ref r1), .val (.ref r2), .unset] [(.int (0 : Int32))])) _
    refine XS.istoreN X5.here hx rfl (hb hby d4_94) rfl (l' := #[.val (.ref r1), .val (.ref r2), .val (.int (0 : Int32))]) rfl ?_
    show Steps p.tables e below (T5.setTop (mkF m 95 #[.val (.ref r1), .val (.ref r2), .val (.int (0 : Int32))] [])) _
    refine XS.goto X5.here hx rfl (pc0 := 95) (pc' := 132) rfl (hb hby d4_95) (by decide) (by decide) ?_
    show Steps p.tables e below (T5.setTop (mkF m 132 #[.val (.ref r1), .val (.ref r2), .val (.int (0 : Int32))] [])) _
    refine XS.iloadN X5.here hx rfl (hb hby d4_132) rfl ?_
    show Steps p.tables e below (T5.setTop (mkF m 133 #[.val (.ref r1), .val (.ref r2), .val (.int (0 : Int32))] [(.int (0 : Int32))])) _
    exact retN X5 hx (t := .boolean) Bd.returns (by simp) (hb hby d4_133) hr
  · show own_QP (some (.int (0 : Int32))) n0 h0 _ T5.heap _
    rw [e5]
    exact ⟨rfl, N0, rfl⟩
set_option maxRecDepth 65536 in
set_option maxHeartbeats 40000000 in
theorem rm2_1 (l : Launch) (Z : State) (a0 : Array Value) (hw : ∀ d ∈ tables_1, d.before a0 Z = true)  (h0 : Heap) (n0 : Nat) (O0 : Old Z n0 h0)  :
    MetFree l (⟨"com/example/key_warden/keywarden/engine/LockModeConflictsWithPinLaw", "row", "(I)I"⟩ : MethodName) (head1 [Jvm.Cond.code (⟨"com/example/key_warden/keywarden/engine/LockModeConflictsWithPinLaw", "row", "(I)I"⟩ : MethodName) method_4_code 1 (some .int)] ({ frames := 0, cells := 0, slots := 0, locals := 0 } : Room)) (fun a U => a = #[(.int (3 : Int32))] ∧ Z.Warmed39 U.vm ∧ U.heap = h0) (fun _ _ _ _ _ => True) (fun _ U o U' => ∃ v L, o = .returned v ∧ own_QP (some (.int (108 : Int32))) n0 h0 v U'.heap L ∧ FrameEnd U o U' L ({ frames := 0, cells := 0, slots := 0, locals := 0 } : Room).cells ({ frames := 0, cells := 0, slots := 0, locals := 0 } : Room).slots) := by
  refine MetFree.of_bodySF (plainFor_of_name pn_4) hisR ?_
  intro p e s m args below meth c s₁ Bd hml0 hP hK
  obtain ⟨rfl, hZ, hh⟩ := hP
  have hx := Bd.exec
  have hby := Bd.bytes
  have hml : c.maxLocals = 1 := hml0
  have hown : s.vm.findClass "com/example/key_warden/keywarden/engine/LockModeConflictsWithPinLaw" = some m.cls := findClass_of_methodNamed Bd.named
  have hnm := (name_of_methodNamed Bd.named Bd.method).1
  have X0 : Stand p l e ({ frames := 0, cells := 0, slots := 0, locals := 0 } : Room) s m #[(.int (3 : Int32))] below meth c s₁ [] 0 0 := Stand.of_body Bd
  have e0 : s₁.heap = h0 := by rw [← hh, Bd.state]; rfl
  have N0 := Fr.nil n0
  have pre0 : ∀ t, Steps p.tables e below (s₁.setTop (mkF m 0 #[.val (.int (3 : Int32))] [])) t → Steps p.tables e below (s₁.setTop (entryFrame m #[(.int (3 : Int32))] 1)) t := fun t k => castTop (ef_2_I m (3 : Int32)) k
  obtain ⟨fs, hr, hrun, hended, hW, hsame⟩ := X0.leave (v := (some (.int (108 : Int32)))) (fun h => by rw [Bd.returns] at h; cases h)
  refine ⟨_, _, pre0 _ ?_, hrun, hended, _, _, rfl, ?_, ⟨_, rfl⟩, hW, hsame.mono (by decide) (by decide)⟩
  · show Steps p.tables e below (s₁.setTop (mkF m 0 #[.val (.int (3 : Int32))] [])) _
    refine XS.iloadN X0.here hx rfl (hb hby d2_0) rfl ?_
    show Steps p.tables e below (s₁.setTop (mkF m 1 #[.val (.int (3 : Int32))] [(.int (3 : Int32))])) _
    refine XS.iconst X0.here hx rfl (hb hby d2_1) ?_
    show Steps p.tables e below (s₁.setTop (mkF m 2 #[.val (.int (3 : Int32))] [(.int (2 : Int32)), (.int (3 : Int32))])) _
    refine XS.icmpNo X0.here hx rfl (hb hby d2_2) rfl (by decide) ?_
    show Steps p.tables e below (s₁.setTop (mkF m 5 #[.val (.int (3 : Int32))] [])) _
    refine XS.iloadN X0.here hx rfl (hb hby d2_5) rfl ?_
    show Steps p.tables e below (s₁.setTop (mkF m 6 #[.val (.int (3 : Int32))] [(.int (3 : Int32))])) _
    refine XS.iconst X0.here hx rfl (hb hby d2_6) ?_
    show Steps p.tables e below (s₁.setTop (mkF m 7 #[.val (.int (3 : Int32))] [(.int (3 : Int32)), (.int (3 : Int32))])) _
    refine XS.icmpNo X0.here hx rfl (hb hby d2_7) rfl (by decide) ?_
    show Steps p.tables e below (s₁.setTop (mkF m 10 #[.val (.int (3 : Int32))] [])) _
    refine XS.bipush X0.here hx rfl (hb hby d2_10) ?_
    show Steps p.tables e below (s₁.setTop (mkF m 12 #[.val (.int (3 : Int32))] [(.int (108 : Int32))])) _
    exact retI X0 hx Bd.returns (hb hby d2_12) hr
  · show own_QP (some (.int (108 : Int32))) n0 h0 _ s₁.heap _
    rw [e0]
    exact ⟨rfl, N0, rfl⟩
set_option maxRecDepth 65536 in
set_option maxHeartbeats 40000000 in
theorem rm2_2 (l : Launch) (Z : State) (a0 : Array Value) (hw : ∀ d ∈ tables_1, d.before a0 Z = true)  (h0 : Heap) (n0 : Nat) (O0 : Old Z n0 h0)  :
    MetFree l (⟨"com/example/key_warden/keywarden/engine/LockModeConflictsWithPinLaw", "row", "(I)I"⟩ : MethodName) (head1 [Jvm.Cond.code (⟨"com/example/key_warden/keywarden/engine/LockModeConflictsWithPinLaw", "row", "(I)I"⟩ : MethodName) method_4_code 1 (some .int)] ({ frames := 0, cells := 0, slots := 0, locals := 0 } : Room)) (fun a U => a = #[(.int (4 : Int32))] ∧ Z.Warmed39 U.vm ∧ U.heap = h0) (fun _ _ _ _ _ => True) (fun _ U o U' => ∃ v L, o = .returned v ∧ own_QP (some (.int (0 : Int32))) n0 h0 v U'.heap L ∧ FrameEnd U o U' L ({ frames := 0, cells := 0, slots := 0, locals := 0 } : Room).cells ({ frames := 0, cells := 0, slots := 0, locals := 0 } : Room).slots) := by
  refine MetFree.of_bodySF (plainFor_of_name pn_4) hisR ?_
  intro p e s m args below meth c s₁ Bd hml0 hP hK
  obtain ⟨rfl, hZ, hh⟩ := hP
  have hx := Bd.exec
  have hby := Bd.bytes
  have hml : c.maxLocals = 1 := hml0
  have hown : s.vm.findClass "com/example/key_warden/keywarden/engine/LockModeConflictsWithPinLaw" = some m.cls := findClass_of_methodNamed Bd.named
  have hnm := (name_of_methodNamed Bd.named Bd.method).1
  have X0 : Stand p l e ({ frames := 0, cells := 0, slots := 0, locals := 0 } : Room) s m #[(.int (4 : Int32))] below meth c s₁ [] 0 0 := Stand.of_body Bd
  have e0 : s₁.heap = h0 := by rw [← hh, Bd.state]; rfl
  have N0 := Fr.nil n0
  have pre0 : ∀ t, Steps p.tables e below (s₁.setTop (mkF m 0 #[.val (.int (4 : Int32))] [])) t → Steps p.tables e below (s₁.setTop (entryFrame m #[(.int (4 : Int32))] 1)) t := fun t k => castTop (ef_2_I m (4 : Int32)) k
  obtain ⟨fs, hr, hrun, hended, hW, hsame⟩ := X0.leave (v := (some (.int (0 : Int32)))) (fun h => by rw [Bd.returns] at h; cases h)
  refine ⟨_, _, pre0 _ ?_, hrun, hended, _, _, rfl, ?_, ⟨_, rfl⟩, hW, hsame.mono (by decide) (by decide)⟩
  · show Steps p.tables e below (s₁.setTop (mkF m 0 #[.val (.int (4 : Int32))] [])) _
    refine XS.iloadN X0.here hx rfl (hb hby d2_0) rfl ?_
    show Steps p.tables e below (s₁.setTop (mkF m 1 #[.val (.int (4 : Int32))] [(.int (4 : Int32))])) _
    refine XS.iconst X0.here hx rfl (hb hby d2_1) ?_
    show Steps p.tables e below (s₁.setTop (mkF m 2 #[.val (.int (4 : Int32))] [(.int (2 : Int32)), (.int (4 : Int32))])) _
    refine XS.icmpNo X0.here hx rfl (hb hby d2_2) rfl (by decide) ?_
    show Steps p.tables e below (s₁.setTop (mkF m 5 #[.val (.int (4 : Int32))] [])) _
    refine XS.iloadN X0.here hx rfl (hb hby d2_5) rfl ?_
    show Steps p.tables e below (s₁.setTop (mkF m 6 #[.val (.int (4 : Int32))] [(.int (4 : Int32))])) _
    refine XS.iconst X0.here hx rfl (hb hby d2_6) ?_
    show Steps p.tables e below (s₁.setTop (mkF m 7 #[.val (.int (4 : Int32))] [(.int (3 : Int32)), (.int (4 : Int32))])) _
    refine XS.icmpYes X0.here hx rfl (pc0 := 7) (pc' := 13) rfl (hb hby d2_7) rfl (by decide) (by decide) (by decide) ?_
    show Steps p.tables e below (s₁.setTop (mkF m 13 #[.val (.int (4 : Int32))] [])) _
    refine XS.iloadN X0.here hx rfl (hb hby d2_13) rfl ?_
    show Steps p.tables e below (s₁.setTop (mkF m 14 #[.val (.int (4 : Int32))] [(.int (4 : Int32))])) _
    refine XS.iconst X0.here hx rfl (hb hby d2_14) ?_
    show Steps p.tables e below (s₁.setTop (mkF m 15 #[.val (.int (4 : Int32))] [(.int (5 : Int32)), (.int (4 : Int32))])) _
    refine XS.icmpNo X0.here hx rfl (hb hby d2_15) rfl (by decide) ?_
    show Steps p.tables e below (s₁.setTop (mkF m 18 #[.val (.int (4 : Int32))] [])) _
    refine XS.iloadN X0.here hx rfl (hb hby d2_18) rfl ?_
    show Steps p.tables e below (s₁.setTop (mkF m 19 #[.val (.int (4 : Int32))] [(.int (4 : Int32))])) _
    refine XS.bipush X0.here hx rfl (hb hby d2_19) ?_
    show Steps p.tables e below (s₁.setTop (mkF m 21 #[.val (.int (4 : Int32))] [(.int (6 : Int32)), (.int (4 : Int32))])) _
    refine XS.icmpYes X0.here hx rfl (pc0 := 21) (pc' := 27) rfl (hb hby d2_21) rfl (by decide) (by decide) (by decide) ?_
    show Steps p.tables e below (s₁.setTop (mkF m 27 #[.val (.int (4 : Int32))] [])) _
    refine XS.iloadN X0.here hx rfl (hb hby d2_27) rfl ?_
    show Steps p.tables e below (s₁.setTop (mkF m 28 #[.val (.int (4 : Int32))] [(.int (4 : Int32))])) _
    refine XS.bipush X0.here hx rfl (hb hby d2_28) ?_
    show Steps p.tables e below (s₁.setTop (mkF m 30 #[.val (.int (4 : Int32))] [(.int (8 : Int32)), (.int (4 : Int32))])) _
    refine XS.icmpYes X0.here hx rfl (pc0 := 30) (pc' := 37) rfl (hb hby d2_30) rfl (by decide) (by decide) (by decide) ?_
    show Steps p.tables e below (s₁.setTop (mkF m 37 #[.val (.int (4 : Int32))] [])) _
    refine XS.iloadN X0.here hx rfl (hb hby d2_37) rfl ?_
    show Steps p.tables e below (s₁.setTop (mkF m 38 #[.val (.int (4 : Int32))] [(.int (4 : Int32))])) _
    refine XS.bipush X0.here hx rfl (hb hby d2_38) ?_
    show Steps p.tables e below (s₁.setTop (mkF m 40 #[.val (.int (4 : Int32))] [(.int (9 : Int32)), (.int (4 : Int32))])) _
    refine XS.icmpYes X0.here hx rfl (pc0 := 40) (pc' := 47) rfl (hb hby d2_40) rfl (by decide) (by decide) (by decide) ?_
    show Steps p.tables e below (s₁.setTop (mkF m 47 #[.val (.int (4 : Int32))] [])) _
    refine XS.iconst X0.here hx rfl (hb hby d2_47) ?_
    show Steps p.tables e below (s₁.setTop (mkF m 48 #[.val (.int (4 : Int32))] [(.int (0 : Int32))])) _
    exact retI X0 hx Bd.returns (hb hby d2_48) hr
  · show own_QP (some (.int (0 : Int32))) n0 h0 _ s₁.heap _
    rw [e0]
    exact ⟨rfl, N0, rfl⟩
set_option maxRecDepth 65536 in
set_option maxHeartbeats 40000000 in
theorem rm4_4 (l : Launch) (Z : State) (a0 : Array Value) (hw : ∀ d ∈ tables_1, d.before a0 Z = true) (r1 : Addr) (r2 : Addr) (h0 : Heap) (n0 : Nat) (O0 : Old Z n0 h0) (P1 : Fld Z h0 r1 "com/example/key_warden/keywarden/engine/LockMode" "intention" "Z" (.int (0 : Int32))) (P2 : Fld Z h0 r1 "com/example/key_warden/keywarden/engine/LockMode" "keyLock" "Z" (.int (0 : Int32))) (P3 : Fld Z h0 r2 "com/example/key_warden/keywarden/engine/LockMode" "keyLock" "Z" (.int (0 : Int32))) (P4 : Fld Z h0 r1 "com/example/key_warden/keywarden/engine/LockMode" "insertIntention" "Z" (.int (0 : Int32))) (P5 : Fld Z h0 r2 "com/example/key_warden/keywarden/engine/LockMode" "insertIntention" "Z" (.int (0 : Int32))) (P6 : Fld Z h0 r1 "com/example/key_warden/keywarden/engine/LockMode" "coversTarget" "Z" (.int (0 : Int32))) :
    MetFree l (⟨"com/example/key_warden/keywarden/engine/LockMode", "conflictsWith", "(Lcom/example/key_warden/keywarden/engine/LockMode;)Z"⟩ : MethodName) (head1 [Jvm.Cond.code (⟨"com/example/key_warden/keywarden/engine/LockMode", "conflictsWith", "(Lcom/example/key_warden/keywarden/engine/LockMode;)Z"⟩ : MethodName) prog_26_method_6_code 3 (some .boolean)] ({ frames := 0, cells := 0, slots := 0, locals := 0 } : Room)) (fun a U => a = #[(.ref r1), (.ref r2)] ∧ Z.Warmed39 U.vm ∧ U.heap = h0) (fun _ _ _ _ _ => True) (fun _ U o U' => ∃ v L, o = .returned v ∧ own_QP (some (.int (0 : Int32))) n0 h0 v U'.heap L ∧ FrameEnd U o U' L ({ frames := 0, cells := 0, slots := 0, locals := 0 } : Room).cells ({ frames := 0, cells := 0, slots := 0, locals := 0 } : Room).slots) := by
  refine MetFree.of_bodySF (plainFor_of_name pn_9) hisR ?_
  intro p e s m args below meth c s₁ Bd hml0 hP hK
  obtain ⟨rfl, hZ, hh⟩ := hP
  have hx := Bd.exec
  have hby := Bd.bytes
  have hml : c.maxLocals = 3 := hml0
  have hown : s.vm.findClass "com/example/key_warden/keywarden/engine/LockMode" = some m.cls := findClass_of_methodNamed Bd.named
  have hnm := (name_of_methodNamed Bd.named Bd.method).1
  have X0 : Stand p l e ({ frames := 0, cells := 0, slots := 0, locals := 0 } : Room) s m #[(.ref r1), (.ref r2)] below meth c s₁ [] 0 0 := Stand.of_body Bd
  have e0 : s₁.heap = h0 := by rw [← hh, Bd.state]; rfl
  have N0 := Fr.nil n0
  have pre0 : ∀ t, Steps p.tables e below (s₁.setTop (mkF m 0 #[.val (.ref r1), .val (.ref r2), .unset] [])) t → Steps p.tables e below (s₁.setTop (entryFrame m #[(.ref r1), (.ref r2)] 3)) t := fun t k => castTop (ef_4_RR m r1 r2) k
  obtain ⟨T1, X1, e1, st1⟩ := getF X0 hx hZ hown (host := "") (Or.inl (hw _ (List.mem_of_getElem? (i := 21) rfl))) Via.refl e0 P1 (g := (mkF m 1 #[.val (.ref r1), .val (.ref r2), .unset] [(.ref r1)])) rfl rfl (hb hby d4_1)
  obtain ⟨T2, X2, e2, st2⟩ := getF X1 hx hZ hown (host := "") (Or.inl (hw _ (List.mem_of_getElem? (i := 23) rfl))) Via.refl e1 P2 (g := (mkF m 20 #[.val (.ref r1), .val (.ref r2), .unset] [(.ref r1)])) rfl rfl (hb hby d4_20)
  obtain ⟨T3, X3, e3, st3⟩ := getF X2 hx hZ hown (host := "") (Or.inl (hw _ (List.mem_of_getElem? (i := 23) rfl))) Via.refl e2 P3 (g := (mkF m 27 #[.val (.ref r1), .val (.ref r2), .unset] [(.ref r2)])) rfl rfl (hb hby d4_27)
  obtain ⟨T4, X4, e4, st4⟩ := getF X3 hx hZ hown (host := "") (Or.inl (hw _ (List.mem_of_getElem? (i := 25) rfl))) Via.refl e3 P4 (g := (mkF m 57 #[.val (.ref r1), .val (.ref r2), .unset] [(.ref r1)])) rfl rfl (hb hby d4_57)
  obtain ⟨T5, X5, e5, st5⟩ := getF X4 hx hZ hown (host := "") (Or.inl (hw _ (List.mem_of_getElem? (i := 25) rfl))) Via.refl e4 P5 (g := (mkF m 87 #[.val (.ref r1), .val (.ref r2), .unset] [(.ref r2)])) rfl rfl (hb hby d4_87)
  obtain ⟨T6, X6, e6, st6⟩ := getF X5 hx hZ hown (host := "") (Or.inl (hw _ (List.mem_of_getElem? (i := 27) rfl))) Via.refl e5 P6 (g := (mkF m 99 #[.val (.ref r1), .val (.ref r2), .unset] [(.ref r1)])) rfl rfl (hb hby d4_99)
  obtain ⟨fs, hr, hrun, hended, hW, hsame⟩ := X6.leave (v := (some (.int (0 : Int32)))) (fun h => by rw [Bd.returns] at h; cases h)
  refine ⟨_, _, pre0 _ ?_, hrun, hended, _, _, rfl, ?_, ⟨_, rfl⟩, hW, hsame.mono (by decide) (by decide)⟩
  · show Steps p.tables e below (s₁.setTop (mkF m 0 #[.val (.ref r1), .val (.ref r2), .unset] [])) _
    refine XS.aloadN X0.here hx rfl (hb hby d4_0) rfl rfl ?_
    show Steps p.tables e below (s₁.setTop (mkF m 1 #[.val (.ref r1), .val (.ref r2), .unset] [(.ref r1)])) _
    refine st1 _ ?_
    show Steps p.tables e below (T1.setTop (mkF m 4 #[.val (.ref r1), .val (.ref r2), .unset] [(.int (0 : Int32))])) _
    refine XS.ifYes X1.here hx rfl (pc0 := 4) (pc' := 19) rfl (hb hby d4_4) rfl (by decide) (by decide) (by decide) ?_
    show Steps p.tables e below (T1.setTop (mkF m 19 #[.val (.ref r1), .val (.ref r2), .unset] [])) _
    refine XS.aloadN X1.here hx rfl (hb hby d4_19) rfl rfl ?_
    show Steps p.tables e below (T1.setTop (mkF m 20 #[.val (.ref r1), .val (.ref r2), .unset] [(.ref r1)])) _
    refine st2 _ ?_
    show Steps p.tables e below (T2.setTop (mkF m 23 #[.val (.ref r1), .val (.ref r2), .unset] [(.int (0 : Int32))])) _
    refine XS.ifNo X2.here hx rfl (hb hby d4_23) rfl (by decide) ?_
    show Steps p.tables e below (T2.setTop (mkF m 26 #[.val (.ref r1), .val (.ref r2), .unset] [])) _
    refine XS.aloadN X2.here hx rfl (hb hby d4_26) rfl rfl ?_
    show Steps p.tables e below (T2.setTop (mkF m 27 #[.val (.ref r1), .val (.ref r2), .unset] [(.ref r2)])) _
    refine st3 _ ?_
    show Steps p.tables e below (T3.setTop (mkF m 30 #[.val (.ref r1), .val (.ref r2), .unset] [(.int (0 : Int32))])) _
    refine XS.ifYes X3.here hx rfl (pc0 := 30) (pc' := 56) rfl (hb hby d4_30) rfl (by decide) (by decide) (by decide) ?_
    show Steps p.tables e below (T3.setTop (mkF m 56 #[.val (.ref r1), .val (.ref r2), .unset] [])) _
    refine XS.aloadN X3.here hx rfl (hb hby d4_56) rfl rfl ?_
    show Steps p.tables e below (T3.setTop (mkF m 57 #[.val (.ref r1), .val (.ref r2), .unset] [(.ref r1)])) _
    refine st4 _ ?_
    show Steps p.tables e below (T4.setTop (mkF m 60 #[.val (.ref r1), .val (.ref r2), .unset] [(.int (0 : Int32))])) _
    refine XS.ifYes X4.here hx rfl (pc0 := 60) (pc' := 86) rfl (hb hby d4_60) rfl (by decide) (by decide) (by decide) ?_
    show Steps p.tables e below (T4.setTop (mkF m 86 #[.val (.ref r1), .val (.ref r2), .unset] [])) _
    refine XS.aloadN X4.here hx rfl (hb hby d4_86) rfl rfl ?_
    show Steps p.tables e below (T4.setTop (mkF m 87 #[.val (.ref r1), .val (.ref r2), .unset] [(.ref r2)])) _
    refine st5 _ ?_
    show Steps p.tables e below (T5.setTop (mkF m 90 #[.val (.ref r1), .val (.ref r2), .unset] [(.int (0 : Int32))])) _
    refine XS.ifYes X5.here hx rfl (pc0 := 90) (pc' := 98) rfl (hb hby d4_90) rfl (by decide) (by decide) (by decide) ?_
    show Steps p.tables e below (T5.setTop (mkF m 98 #[.val (.ref r1), .val (.ref r2), .unset] [])) _
    refine XS.aloadN X5.here hx rfl (hb hby d4_98) rfl rfl ?_
    show Steps p.tables e below (T5.setTop (mkF m 99 #[.val (.ref r1), .val (.ref r2), .unset] [(.ref r1)])) _
    refine st6 _ ?_
    show Steps p.tables e below (T6.setTop (mkF m 102 #[.val (.ref r1), .val (.ref r2), .unset] [(.int (0 : Int32))])) _
    refine XS.ifYes X6.here hx rfl (pc0 := 102) (pc' := 130) rfl (hb hby d4_102) rfl (by decide) (by decide) (by decide) ?_
    show Steps p.tables e below (T6.setTop (mkF m 130 #[.val (.ref r1), .val (.ref r2), .unset] [])) _
    refine XS.iconst X6.here hx rfl (hb hby d4_130) ?_
    show Steps p.tables e below (T6.setTop (mkF m 131 #[.val (.ref r1), .val (.ref r2), .unset] [(.int (0 : Int32))])) _
    refine XS.istoreN X6.here hx rfl (hb hby d4_131) rfl (l' := #[.val (.ref r1), .val (.ref r2), .val (.int (0 : Int32))]) rfl ?_
    show Steps p.tables e below (T6.setTop (mkF m 132 #[.val (.ref r1), .val (.ref r2), .val (.int (0 : Int32))] [])) _
    refine XS.iloadN X6.here hx rfl (hb hby d4_132) rfl ?_
    show Steps p.tables e below (T6.setTop (mkF m 133 #[.val (.ref r1), .val (.ref r2), .val (.int (0 : Int32))] [(.int (0 : Int32))])) _
    exact retN X6 hx (t := .boolean) Bd.returns (by simp) (hb hby d4_133) hr
  · show own_QP (some (.int (0 : Int32))) n0 h0 _ T6.heap _
    rw [e6]
    exact ⟨rfl, N0, rfl⟩
set_option maxRecDepth 65536 in
set_option maxHeartbeats 40000000 in
theorem rm4_5 (l : Launch) (Z : State) (a0 : Array Value) (hw : ∀ d ∈ tables_1, d.before a0 Z = true) (r1 : Addr) (h0 : Heap) (n0 : Nat) (O0 : Old Z n0 h0) (P1 : Fld Z h0 r1 "com/example/key_warden/keywarden/engine/LockMode" "intention" "Z" (.int (0 : Int32))) (P2 : Fld Z h0 r1 "com/example/key_warden/keywarden/engine/LockMode" "keyLock" "Z" (.int (0 : Int32))) (P3 : Fld Z h0 r1 "com/example/key_warden/keywarden/engine/LockMode" "insertIntention" "Z" (.int (0 : Int32))) (P4 : Fld Z h0 r1 "com/example/key_warden/keywarden/engine/LockMode" "coversTarget" "Z" (.int (0 : Int32))) :
    MetFree l (⟨"com/example/key_warden/keywarden/engine/LockMode", "conflictsWith", "(Lcom/example/key_warden/keywarden/engine/LockMode;)Z"⟩ : MethodName) (head1 [Jvm.Cond.code (⟨"com/example/key_warden/keywarden/engine/LockMode", "conflictsWith", "(Lcom/example/key_warden/keywarden/engine/LockMode;)Z"⟩ : MethodName) prog_26_method_6_code 3 (some .boolean)] ({ frames := 0, cells := 0, slots := 0, locals := 0 } : Room)) (fun a U => a = #[(.ref r1), (.ref r1)] ∧ Z.Warmed39 U.vm ∧ U.heap = h0) (fun _ _ _ _ _ => True) (fun _ U o U' => ∃ v L, o = .returned v ∧ own_QP (some (.int (0 : Int32))) n0 h0 v U'.heap L ∧ FrameEnd U o U' L ({ frames := 0, cells := 0, slots := 0, locals := 0 } : Room).cells ({ frames := 0, cells := 0, slots := 0, locals := 0 } : Room).slots) := by
  refine MetFree.of_bodySF (plainFor_of_name pn_9) hisR ?_
  intro p e s m args below meth c s₁ Bd hml0 hP hK
  obtain ⟨rfl, hZ, hh⟩ := hP
  have hx := Bd.exec
  have hby := Bd.bytes
  have hml : c.maxLocals = 3 := hml0
  have hown : s.vm.findClass "com/example/key_warden/keywarden/engine/LockMode" = some m.cls := findClass_of_methodNamed Bd.named
  have hnm := (name_of_methodNamed Bd.named Bd.method).1
  have X0 : Stand p l e ({ frames := 0, cells := 0, slots := 0, locals := 0 } : Room) s m #[(.ref r1), (.ref r1)] below meth c s₁ [] 0 0 := Stand.of_body Bd
  have e0 : s₁.heap = h0 := by rw [← hh, Bd.state]; rfl
  have N0 := Fr.nil n0
  have pre0 : ∀ t, Steps p.tables e below (s₁.setTop (mkF m 0 #[.val (.ref r1), .val (.ref r1), .unset] [])) t → Steps p.tables e below (s₁.setTop (entryFrame m #[(.ref r1), (.ref r1)] 3)) t := fun t k => castTop (ef_4_RR m r1 r1) k
  obtain ⟨T1, X1, e1, st1⟩ := getF X0 hx hZ hown (host := "") (Or.inl (hw _ (List.mem_of_getElem? (i := 21) rfl))) Via.refl e0 P1 (g := (mkF m 1 #[.val (.ref r1), .val (.ref r1), .unset] [(.ref r1)])) rfl rfl (hb hby d4_1)
  obtain ⟨T2, X2, e2, st2⟩ := getF X1 hx hZ hown (host := "") (Or.inl (hw _ (List.mem_of_getElem? (i := 23) rfl))) Via.refl e1 P2 (g := (mkF m 20 #[.val (.ref r1), .val (.ref r1), .unset] [(.ref r1)])) rfl rfl (hb hby d4_20)
  obtain ⟨T3, X3, e3, st3⟩ := getF X2 hx hZ hown (host := "") (Or.inl (hw _ (List.mem_of_getElem? (i := 23) rfl))) Via.refl e2 P2 (g := (mkF m 27 #[.val (.ref r1), .val (.ref r1), .unset] [(.ref r1)])) rfl rfl (hb hby d4_27)
  obtain ⟨T4, X4, e4, st4⟩ := getF X3 hx hZ hown (host := "") (Or.inl (hw _ (List.mem_of_getElem? (i := 25) rfl))) Via.refl e3 P3 (g := (mkF m 57 #[.val (.ref r1), .val (.ref r1), .unset] [(.ref r1)])) rfl rfl (hb hby d4_57)
  obtain ⟨T5, X5, e5, st5⟩ := getF X4 hx hZ hown (host := "") (Or.inl (hw _ (List.mem_of_getElem? (i := 25) rfl))) Via.refl e4 P3 (g := (mkF m 87 #[.val (.ref r1), .val (.ref r1), .unset] [(.ref r1)])) rfl rfl (hb hby d4_87)
  obtain ⟨T6, X6, e6, st6⟩ := getF X5 hx hZ hown (host := "") (Or.inl (hw _ (List.mem_of_getElem? (i := 27) rfl))) Via.refl e5 P4 (g := (mkF m 99 #[.val (.ref r1), .val (.ref r1), .unset] [(.ref r1)])) rfl rfl (hb hby d4_99)
  obtain ⟨fs, hr, hrun, hended, hW, hsame⟩ := X6.leave (v := (some (.int (0 : Int32)))) (fun h => by rw [Bd.returns] at h; cases h)
  refine ⟨_, _, pre0 _ ?_, hrun, hended, _, _, rfl, ?_, ⟨_, rfl⟩, hW, hsame.mono (by decide) (by decide)⟩
  · show Steps p.tables e below (s₁.setTop (mkF m 0 #[.val (.ref r1), .val (.ref r1), .unset] [])) _
    refine XS.aloadN X0.here hx rfl (hb hby d4_0) rfl rfl ?_
    show Steps p.tables e below (s₁.setTop (mkF m 1 #[.val (.ref r1), .val (.ref r1), .unset] [(.ref r1)])) _
    refine st1 _ ?_
    show Steps p.tables e below (T1.setTop (mkF m 4 #[.val (.ref r1), .val (.ref r1), .unset] [(.int (0 : Int32))])) _
    refine XS.ifYes X1.here hx rfl (pc0 := 4) (pc' := 19) rfl (hb hby d4_4) rfl (by decide) (by decide) (by decide) ?_
    show Steps p.tables e below (T1.setTop (mkF m 19 #[.val (.ref r1), .val (.ref r1), .unset] [])) _
    refine XS.aloadN X1.here hx rfl (hb hby d4_19) rfl rfl ?_
    show Steps p.tables e below (T1.setTop (mkF m 20 #[.val (.ref r1), .val (.ref r1), .unset] [(.ref r1)])) _
    refine st2 _ ?_
    show Steps p.tables e below (T2.setTop (mkF m 23 #[.val (.ref r1), .val (.ref r1), .unset] [(.int (0 : Int32))])) _
    refine XS.ifNo X2.here hx rfl (hb hby d4_23) rfl (by decide) ?_
    show Steps p.tables e below (T2.setTop (mkF m 26 #[.val (.ref r1), .val (.ref r1), .unset] [])) _
    refine XS.aloadN X2.here hx rfl (hb hby d4_26) rfl rfl ?_
    show Steps p.tables e below (T2.setTop (mkF m 27 #[.val (.ref r1), .val (.ref r1), .unset] [(.ref r1)])) _
    refine st3 _ ?_
    show Steps p.tables e below (T3.setTop (mkF m 30 #[.val (.ref r1), .val (.ref r1), .unset] [(.int (0 : Int32))])) _
    refine XS.ifYes X3.here hx rfl (pc0 := 30) (pc' := 56) rfl (hb hby d4_30) rfl (by decide) (by decide) (by decide) ?_
    show Steps p.tables e below (T3.setTop (mkF m 56 #[.val (.ref r1), .val (.ref r1), .unset] [])) _
    refine XS.aloadN X3.here hx rfl (hb hby d4_56) rfl rfl ?_
    show Steps p.tables e below (T3.setTop (mkF m 57 #[.val (.ref r1), .val (.ref r1), .unset] [(.ref r1)])) _
    refine st4 _ ?_
    show Steps p.tables e below (T4.setTop (mkF m 60 #[.val (.ref r1), .val (.ref r1), .unset] [(.int (0 : Int32))])) _
    refine XS.ifYes X4.here hx rfl (pc0 := 60) (pc' := 86) rfl (hb hby d4_60) rfl (by decide) (by decide) (by decide) ?_
    show Steps p.tables e below (T4.setTop (mkF m 86 #[.val (.ref r1), .val (.ref r1), .unset] [])) _
    refine XS.aloadN X4.here hx rfl (hb hby d4_86) rfl rfl ?_
    show Steps p.tables e below (T4.setTop (mkF m 87 #[.val (.ref r1), .val (.ref r1), .unset] [(.ref r1)])) _
    refine st5 _ ?_
    show Steps p.tables e below (T5.setTop (mkF m 90 #[.val (.ref r1), .val (.ref r1), .unset] [(.int (0 : Int32))])) _
    refine XS.ifYes X5.here hx rfl (pc0 := 90) (pc' := 98) rfl (hb hby d4_90) rfl (by decide) (by decide) (by decide) ?_
    show Steps p.tables e below (T5.setTop (mkF m 98 #[.val (.ref r1), .val (.ref r1), .unset] [])) _
    refine XS.aloadN X5.here hx rfl (hb hby d4_98) rfl rfl ?_
    show Steps p.tables e below (T5.setTop (mkF m 99 #[.val (.ref r1), .val (.ref r1), .unset] [(.ref r1)])) _
    refine st6 _ ?_
    show Steps p.tables e below (T6.setTop (mkF m 102 #[.val (.ref r1), .val (.ref r1), .unset] [(.int (0 : Int32))])) _
    refine XS.ifYes X6.here hx rfl (pc0 := 102) (pc' := 130) rfl (hb hby d4_102) rfl (by decide) (by decide) (by decide) ?_
    show Steps p.tables e below (T6.setTop (mkF m 130 #[.val (.ref r1), .val (.ref r1), .unset] [])) _
    refine XS.iconst X6.here hx rfl (hb hby d4_130) ?_
    show Steps p.tables e below (T6.setTop (mkF m 131 #[.val (.ref r1), .val (.ref r1), .unset] [(.int (0 : Int32))])) _
    refine XS.istoreN X6.here hx rfl (hb hby d4_131) rfl (l' := #[.val (.ref r1), .val (.ref r1), .val (.int (0 : Int32))]) rfl ?_
    show Steps p.tables e below (T6.setTop (mkF m 132 #[.val (.ref r1), .val (.ref r1), .val (.int (0 : Int32))] [])) _
    refine XS.iloadN X6.here hx rfl (hb hby d4_132) rfl ?_
    show Steps p.tables e below (T6.setTop (mkF m 133 #[.val (.ref r1), .val (.ref r1), .val (.int (0 : Int32))] [(.int (0 : Int32))])) _
    exact retN X6 hx (t := .boolean) Bd.returns (by simp) (hb hby d4_133) hr
  · show own_QP (some (.int (0 : Int32))) n0 h0 _ T6.heap _
    rw [e6]
    exact ⟨rfl, N0, rfl⟩
set_option maxRecDepth 65536 in
set_option maxHeartbeats 40000000 in
theorem rm2_3 (l : Launch) (Z : State) (a0 : Array Value) (hw : ∀ d ∈ tables_1, d.before a0 Z = true)  (h0 : Heap) (n0 : Nat) (O0 : Old Z n0 h0)  :
    MetFree l (⟨"com/example/key_warden/keywarden/engine/LockModeConflictsWithPinLaw", "row", "(I)I"⟩ : MethodName) (head1 [Jvm.Cond.code (⟨"com/example/key_warden/keywarden/engine/LockModeConflictsWithPinLaw", "row", "(I)I"⟩ : MethodName) method_4_code 1 (some .int)] ({ frames := 0, cells := 0, slots := 0, locals := 0 } : Room)) (fun a U => a = #[(.int (5 : Int32))] ∧ Z.Warmed39 U.vm ∧ U.heap = h0) (fun _ _ _ _ _ => True) (fun _ U o U' => ∃ v L, o = .returned v ∧ own_QP (some (.int (12 : Int32))) n0 h0 v U'.heap L ∧ FrameEnd U o U' L ({ frames := 0, cells := 0, slots := 0, locals := 0 } : Room).cells ({ frames := 0, cells := 0, slots := 0, locals := 0 } : Room).slots) := by
  refine MetFree.of_bodySF (plainFor_of_name pn_4) hisR ?_
  intro p e s m args below meth c s₁ Bd hml0 hP hK
  obtain ⟨rfl, hZ, hh⟩ := hP
  have hx := Bd.exec
  have hby := Bd.bytes
  have hml : c.maxLocals = 1 := hml0
  have hown : s.vm.findClass "com/example/key_warden/keywarden/engine/LockModeConflictsWithPinLaw" = some m.cls := findClass_of_methodNamed Bd.named
  have hnm := (name_of_methodNamed Bd.named Bd.method).1
  have X0 : Stand p l e ({ frames := 0, cells := 0, slots := 0, locals := 0 } : Room) s m #[(.int (5 : Int32))] below meth c s₁ [] 0 0 := Stand.of_body Bd
  have e0 : s₁.heap = h0 := by rw [← hh, Bd.state]; rfl
  have N0 := Fr.nil n0
  have pre0 : ∀ t, Steps p.tables e below (s₁.setTop (mkF m 0 #[.val (.int (5 : Int32))] [])) t → Steps p.tables e below (s₁.setTop (entryFrame m #[(.int (5 : Int32))] 1)) t := fun t k => castTop (ef_2_I m (5 : Int32)) k
  obtain ⟨fs, hr, hrun, hended, hW, hsame⟩ := X0.leave (v := (some (.int (12 : Int32)))) (fun h => by rw [Bd.returns] at h; cases h)
  refine ⟨_, _, pre0 _ ?_, hrun, hended, _, _, rfl, ?_, ⟨_, rfl⟩, hW, hsame.mono (by decide) (by decide)⟩
  · show Steps p.tables e below (s₁.setTop (mkF m 0 #[.val (.int (5 : Int32))] [])) _
    refine XS.iloadN X0.here hx rfl (hb hby d2_0) rfl ?_
    show Steps p.tables e below (s₁.setTop (mkF m 1 #[.val (.int (5 : Int32))] [(.int (5 : Int32))])) _
    refine XS.iconst X0.here hx rfl (hb hby d2_1) ?_
    show Steps p.tables e below (s₁.setTop (mkF m 2 #[.val (.int (5 : Int32))] [(.int (2 : Int32)), (.int (5 : Int32))])) _
    refine XS.icmpNo X0.here hx rfl (hb hby d2_2) rfl (by decide) ?_
    show Steps p.tables e below (s₁.setTop (mkF m 5 #[.val (.int (5 : Int32))] [])) _
    refine XS.iloadN X0.here hx rfl (hb hby d2_5) rfl ?_
    show Steps p.tables e below (s₁.setTop (mkF m 6 #[.val (.int (5 : Int32))] [(.int (5 : Int32))])) _
    refine XS.iconst X0.here hx rfl (hb hby d2_6) ?_
    show Steps p.tables e below (s₁.setTop (mkF m 7 #[.val (.int (5 : Int32))] [(.int (3 : Int32)), (.int (5 : Int32))])) _
    refine XS.icmpYes X0.here hx rfl (pc0 := 7) (pc' := 13) rfl (hb hby d2_7) rfl (by decide) (by decide) (by decide) ?_
    show Steps p.tables e below (s₁.setTop (mkF m 13 #[.val (.int (5 : Int32))] [])) _
    refine XS.iloadN X0.here hx rfl (hb hby d2_13) rfl ?_
    show Steps p.tables e below (s₁.setTop (mkF m 14 #[.val (.int (5 : Int32))] [(.int (5 : Int32))])) _
    refine XS.iconst X0.here hx rfl (hb hby d2_14) ?_
    show Steps p.tables e below (s₁.setTop (mkF m 15 #[.val (.int (5 : Int32))] [(.int (5 : Int32)), (.int (5 : Int32))])) _
    refine XS.icmpYes X0.here hx rfl (pc0 := 15) (pc' := 24) rfl (hb hby d2_15) rfl (by decide) (by decide) (by decide) ?_
    show Steps p.tables e below (s₁.setTop (mkF m 24 #[.val (.int (5 : Int32))] [])) _
    refine XS.bipush X0.here hx rfl (hb hby d2_24) ?_
    show Steps p.tables e below (s₁.setTop (mkF m 26 #[.val (.int (5 : Int32))] [(.int (12 : Int32))])) _
    exact retI X0 hx Bd.returns (hb hby d2_26) hr
  · show own_QP (some (.int (12 : Int32))) n0 h0 _ s₁.heap _
    rw [e0]
    exact ⟨rfl, N0, rfl⟩
set_option maxRecDepth 65536 in
set_option maxHeartbeats 40000000 in
theorem rm4_6 (l : Launch) (Z : State) (a0 : Array Value) (hw : ∀ d ∈ tables_1, d.before a0 Z = true) (r1 : Addr) (r2 : Addr) (h0 : Heap) (n0 : Nat) (O0 : Old Z n0 h0) (P1 : Fld Z h0 r1 "com/example/key_warden/keywarden/engine/LockMode" "intention" "Z" (.int (0 : Int32))) (P2 : Fld Z h0 r1 "com/example/key_warden/keywarden/engine/LockMode" "keyLock" "Z" (.int (0 : Int32))) (P3 : Fld Z h0 r2 "com/example/key_warden/keywarden/engine/LockMode" "keyLock" "Z" (.int (0 : Int32))) (P4 : Fld Z h0 r1 "com/example/key_warden/keywarden/engine/LockMode" "insertIntention" "Z" (.int (0 : Int32))) (P5 : Fld Z h0 r2 "com/example/key_warden/keywarden/engine/LockMode" "insertIntention" "Z" (.int (0 : Int32))) (P6 : Fld Z h0 r1 "com/example/key_warden/keywarden/engine/LockMode" "coversTarget" "Z" (.int (1 : Int32))) (P7 : Fld Z h0 r2 "com/example/key_warden/keywarden/engine/LockMode" "coversTarget" "Z" (.int (1 : Int32))) (P8 : Fld Z h0 r1 "com/example/key_warden/keywarden/engine/LockMode" "shared" "Z" (.int (1 : Int32))) (P9 : Fld Z h0 r2 "com/example/key_warden/keywarden/engine/LockMode" "shared" "Z" (.int (0 : Int32))) :
    MetFree l (⟨"com/example/key_warden/keywarden/engine/LockMode", "conflictsWith", "(Lcom/example/key_warden/keywarden/engine/LockMode;)Z"⟩ : MethodName) (head1 [Jvm.Cond.code (⟨"com/example/key_warden/keywarden/engine/LockMode", "conflictsWith", "(Lcom/example/key_warden/keywarden/engine/LockMode;)Z"⟩ : MethodName) prog_26_method_6_code 3 (some .boolean)] ({ frames := 0, cells := 0, slots := 0, locals := 0 } : Room)) (fun a U => a = #[(.ref r1), (.ref r2)] ∧ Z.Warmed39 U.vm ∧ U.heap = h0) (fun _ _ _ _ _ => True) (fun _ U o U' => ∃ v L, o = .returned v ∧ own_QP (some (.int (1 : Int32))) n0 h0 v U'.heap L ∧ FrameEnd U o U' L ({ frames := 0, cells := 0, slots := 0, locals := 0 } : Room).cells ({ frames := 0, cells := 0, slots := 0, locals := 0 } : Room).slots) := by
  refine MetFree.of_bodySF (plainFor_of_name pn_9) hisR ?_
  intro p e s m args below meth c s₁ Bd hml0 hP hK
  obtain ⟨rfl, hZ, hh⟩ := hP
  have hx := Bd.exec
  have hby := Bd.bytes
  have hml : c.maxLocals = 3 := hml0
  have hown : s.vm.findClass "com/example/key_warden/keywarden/engine/LockMode" = some m.cls := findClass_of_methodNamed Bd.named
  have hnm := (name_of_methodNamed Bd.named Bd.method).1
  have X0 : Stand p l e ({ frames := 0, cells := 0, slots := 0, locals := 0 } : Room) s m #[(.ref r1), (.ref r2)] below meth c s₁ [] 0 0 := Stand.of_body Bd
  have e0 : s₁.heap = h0 := by rw [← hh, Bd.state]; rfl
  have N0 := Fr.nil n0
  have pre0 : ∀ t, Steps p.tables e below (s₁.setTop (mkF m 0 #[.val (.ref r1), .val (.ref r2), .unset] [])) t → Steps p.tables e below (s₁.setTop (entryFrame m #[(.ref r1), (.ref r2)] 3)) t := fun t k => castTop (ef_4_RR m r1 r2) k
  obtain ⟨T1, X1, e1, st1⟩ := getF X0 hx hZ hown (host := "") (Or.inl (hw _ (List.mem_of_getElem? (i := 21) rfl))) Via.refl e0 P1 (g := (mkF m 1 #[.val (.ref r1), .val (.ref r2), .unset] [(.ref r1)])) rfl rfl (hb hby d4_1)
  obtain ⟨T2, X2, e2, st2⟩ := getF X1 hx hZ hown (host := "") (Or.inl (hw _ (List.mem_of_getElem? (i := 23) rfl))) Via.refl e1 P2 (g := (mkF m 20 #[.val (.ref r1), .val (.ref r2), .unset] [(.ref r1)])) rfl rfl (hb hby d4_20)
  obtain ⟨T3, X3, e3, st3⟩ := getF X2 hx hZ hown (host := "") (Or.inl (hw _ (List.mem_of_getElem? (i := 23) rfl))) Via.refl e2 P3 (g := (mkF m 27 #[.val (.ref r1), .val (.ref r2), .unset] [(.ref r2)])) rfl rfl (hb hby d4_27)
  obtain ⟨T4, X4, e4, st4⟩ := getF X3 hx hZ hown (host := "") (Or.inl (hw _ (List.mem_of_getElem? (i := 25) rfl))) Via.refl e3 P4 (g := (mkF m 57 #[.val (.ref r1), .val (.ref r2), .unset] [(.ref r1)])) rfl rfl (hb hby d4_57)
  obtain ⟨T5, X5, e5, st5⟩ := getF X4 hx hZ hown (host := "") (Or.inl (hw _ (List.mem_of_getElem? (i := 25) rfl))) Via.refl e4 P5 (g := (mkF m 87 #[.val (.ref r1), .val (.ref r2), .unset] [(.ref r2)])) rfl rfl (hb hby d4_87)
  obtain ⟨T6, X6, e6, st6⟩ := getF X5 hx hZ hown (host := "") (Or.inl (hw _ (List.mem_of_getElem? (i := 27) rfl))) Via.refl e5 P6 (g := (mkF m 99 #[.val (.ref r1), .val (.ref r2), .unset] [(.ref r1)])) rfl rfl (hb hby d4_99)
  obtain ⟨T7, X7, e7, st7⟩ := getF X6 hx hZ hown (host := "") (Or.inl (hw _ (List.mem_of_getElem? (i := 27) rfl))) Via.refl e6 P7 (g := (mkF m 106 #[.val (.ref r1), .val (.ref r2), .unset] [(.ref r2)])) rfl rfl (hb hby d4_106)
  obtain ⟨T8, X8, e8, st8⟩ := getF X7 hx hZ hown (host := "") (Or.inl (hw _ (List.mem_of_getElem? (i := 29) rfl))) Via.refl e7 P8 (g := (mkF m 113 #[.val (.ref r1), .val (.ref r2), .unset] [(.ref r1)])) rfl rfl (hb hby d4_113)
  obtain ⟨T9, X9, e9, st9⟩ := getF X8 hx hZ hown (host := "") (Or.inl (hw _ (List.mem_of_getElem? (i := 29) rfl))) Via.refl e8 P9 (g := (mkF m 120 #[.val (.ref r1), .val (.ref r2), .unset] [(.ref r2)])) rfl rfl (hb hby d4_120)
  obtain ⟨fs, hr, hrun, hended, hW, hsame⟩ := X9.leave (v := (some (.int (1 : Int32)))) (fun h => by rw [Bd.returns] at h; cases h)
  refine ⟨_, _, pre0 _ ?_, hrun, hended, _, _, rfl, ?_, ⟨_, rfl⟩, hW, hsame.mono (by decide) (by decide)⟩
  · show Steps p.tables e below (s₁.setTop (mkF m 0 #[.val (.ref r1), .val (.ref r2), .unset] [])) _
    refine XS.aloadN X0.here hx rfl (hb hby d4_0) rfl rfl ?_
    show Steps p.tables e below (s₁.setTop (mkF m 1 #[.val (.ref r1), .val (.ref r2), .unset] [(.ref r1)])) _
    refine st1 _ ?_
    show Steps p.tables e below (T1.setTop (mkF m 4 #[.val (.ref r1), .val (.ref r2), .unset] [(.int (0 : Int32))])) _
    refine XS.ifYes X1.here hx rfl (pc0 := 4) (pc' := 19) rfl (hb hby d4_4) rfl (by decide) (by decide) (by decide) ?_
    show Steps p.tables e below (T1.setTop (mkF m 19 #[.val (.ref r1), .val (.ref r2), .unset] [])) _
    refine XS.aloadN X1.here hx rfl (hb hby d4_19) rfl rfl ?_
    show Steps p.tables e below (T1.setTop (mkF m 20 #[.val (.ref r1), .val (.ref r2), .unset] [(.ref r1)])) _
    refine st2 _ ?_
    show Steps p.tables e below (T2.setTop (mkF m 23 #[.val (.ref r1), .val (.ref r2), .unset] [(.int (0 : Int32))])) _
    refine XS.ifNo X2.here hx rfl (hb hby d4_23) rfl (by decide) ?_
    show Steps p.tables e below (T2.setTop (mkF m 26 #[.val (.ref r1), .val (.ref r2), .unset] [])) _
    refine XS.aloadN X2.here hx rfl (hb hby d4_26) rfl rfl ?_
    show Steps p.tables e below (T2.setTop (mkF m 27 #[.val (.ref r1), .val (.ref r2), .unset] [(.ref r2)])) _
    refine st3 _ ?_
    show Steps p.tables e below (T3.setTop (mkF m 30 #[.val (.ref r1), .val (.ref r2), .unset] [(.int (0 : Int32))])) _
    refine XS.ifYes X3.here hx rfl (pc0 := 30) (pc' := 56) rfl (hb hby d4_30) rfl (by decide) (by decide) (by decide) ?_
    show Steps p.tables e below (T3.setTop (mkF m 56 #[.val (.ref r1), .val (.ref r2), .unset] [])) _
    refine XS.aloadN X3.here hx rfl (hb hby d4_56) rfl rfl ?_
    show Steps p.tables e below (T3.setTop (mkF m 57 #[.val (.ref r1), .val (.ref r2), .unset] [(.ref r1)])) _
    refine st4 _ ?_
    show Steps p.tables e below (T4.setTop (mkF m 60 #[.val (.ref r1), .val (.ref r2), .unset] [(.int (0 : Int32))])) _
    refine XS.ifYes X4.here hx rfl (pc0 := 60) (pc' := 86) rfl (hb hby d4_60) rfl (by decide) (by decide) (by decide) ?_
    show Steps p.tables e below (T4.setTop (mkF m 86 #[.val (.ref r1), .val (.ref r2), .unset] [])) _
    refine XS.aloadN X4.here hx rfl (hb hby d4_86) rfl rfl ?_
    show Steps p.tables e below (T4.setTop (mkF m 87 #[.val (.ref r1), .val (.ref r2), .unset] [(.ref r2)])) _
    refine st5 _ ?_
    show Steps p.tables e below (T5.setTop (mkF m 90 #[.val (.ref r1), .val (.ref r2), .unset] [(.int (0 : Int32))])) _
    refine XS.ifYes X5.here hx rfl (pc0 := 90) (pc' := 98) rfl (hb hby d4_90) rfl (by decide) (by decide) (by decide) ?_
    show Steps p.tables e below (T5.setTop (mkF m 98 #[.val (.ref r1), .val (.ref r2), .unset] [])) _
    refine XS.aloadN X5.here hx rfl (hb hby d4_98) rfl rfl ?_
    show Steps p.tables e below (T5.setTop (mkF m 99 #[.val (.ref r1), .val (.ref r2), .unset] [(.ref r1)])) _
    refine st6 _ ?_
    show Steps p.tables e below (T6.setTop (mkF m 102 #[.val (.ref r1), .val (.ref r2), .unset] [(.int (1 : Int32))])) _
    refine XS.ifNo X6.here hx rfl (hb hby d4_102) rfl (by decide) ?_
    show Steps p.tables e below (T6.setTop (mkF m 105 #[.val (.ref r1), .val (.ref r2), .unset] [])) _
    refine XS.aloadN X6.here hx rfl (hb hby d4_105) rfl rfl ?_
    show Steps p.tables e below (T6.setTop (mkF m 106 #[.val (.ref r1), .val (.ref r2), .unset] [(.ref r2)])) _
    refine st7 _ ?_
    show Steps p.tables e below (T7.setTop (mkF m 109 #[.val (.ref r1), .val (.ref r2), .unset] [(.int (1 : Int32))])) _
    refine XS.ifNo X7.here hx rfl (hb hby d4_109) rfl (by decide) ?_
    show Steps p.tables e below (T7.setTop (mkF m 112 #[.val (.ref r1), .val (.ref r2), .unset] [])) _
    refine XS.aloadN X7.here hx rfl (hb hby d4_112) rfl rfl ?_
    show Steps p.tables e below (T7.setTop (mkF m 113 #[.val (.ref r1), .val (.ref r2), .unset] [(.ref r1)])) _
    refine st8 _ ?_
    show Steps p.tables e below (T8.setTop (mkF m 116 #[.val (.ref r1), .val (.ref r2), .unset] [(.int (1 : Int32))])) _
    refine XS.ifNo X8.here hx rfl (hb hby d4_116) rfl (by decide) ?_
    show Steps p.tables e below (T8.setTop (mkF m 119 #[.val (.ref r1), .val (.ref r2), .unset] [])) _
    refine XS.aloadN X8.here hx rfl (hb hby d4_119) rfl rfl ?_
    show Steps p.tables e below (T8.setTop (mkF m 120 #[.val (.ref r1), .val (.ref r2), .unset] [(.ref r2)])) _
    refine st9 _ ?_
    show Steps p.tables e below (T9.setTop (mkF m 123 #[.val (.ref r1), .val (.ref r2), .unset] [(.int (0 : Int32))])) _
    refine XS.ifNo X9.here hx rfl (hb hby d4_123) rfl (by decide) ?_
    show Steps p.tables e below (T9.setTop (mkF m 126 #[.val (.ref r1), .val (.ref r2), .unset] [])) _
    refine XS.iconst X9.here hx rfl (hb hby d4_126) ?_
    show Steps p.tables e below (T9.setTop (mkF m 127 #[.val (.ref r1), .val (.ref r2), .unset] [(.int (1 : Int32))])) _
    refine XS.goto X9.here hx rfl (pc0 := 127) (pc' := 131) rfl (hb hby d4_127) (by decide) (by decide) ?_
    show Steps p.tables e below (T9.setTop (mkF m 131 #[.val (.ref r1), .val (.ref r2), .unset] [(.int (1 : Int32))])) _
    refine XS.istoreN X9.here hx rfl (hb hby d4_131) rfl (l' := #[.val (.ref r1), .val (.ref r2), .val (.int (1 : Int32))]) rfl ?_
    show Steps p.tables e below (T9.setTop (mkF m 132 #[.val (.ref r1), .val (.ref r2), .val (.int (1 : Int32))] [])) _
    refine XS.iloadN X9.here hx rfl (hb hby d4_132) rfl ?_
    show Steps p.tables e below (T9.setTop (mkF m 133 #[.val (.ref r1), .val (.ref r2), .val (.int (1 : Int32))] [(.int (1 : Int32))])) _
    exact retN X9 hx (t := .boolean) Bd.returns (by simp) (hb hby d4_133) hr
  · show own_QP (some (.int (1 : Int32))) n0 h0 _ T9.heap _
    rw [e9]
    exact ⟨rfl, N0, rfl⟩
set_option maxRecDepth 65536 in
set_option maxHeartbeats 40000000 in
theorem rm4_7 (l : Launch) (Z : State) (a0 : Array Value) (hw : ∀ d ∈ tables_1, d.before a0 Z = true) (r1 : Addr) (h0 : Heap) (n0 : Nat) (O0 : Old Z n0 h0) (P1 : Fld Z h0 r1 "com/example/key_warden/keywarden/engine/LockMode" "intention" "Z" (.int (0 : Int32))) (P2 : Fld Z h0 r1 "com/example/key_warden/keywarden/engine/LockMode" "keyLock" "Z" (.int (0 : Int32))) (P3 : Fld Z h0 r1 "com/example/key_warden/keywarden/engine/LockMode" "insertIntention" "Z" (.int (0 : Int32))) (P4 : Fld Z h0 r1 "com/example/key_warden/keywarden/engine/LockMode" "coversTarget" "Z" (.int (1 : Int32))) (P5 : Fld Z h0 r1 "com/example/key_warden/keywarden/engine/LockMode" "shared" "Z" (.int (1 : Int32))) :
    MetFree l (⟨"com/example/key_warden/keywarden/engine/LockMode", "conflictsWith", "(Lcom/example/key_warden/keywarden/engine/LockMode;)Z"⟩ : MethodName) (head1 [Jvm.Cond.code (⟨"com/example/key_warden/keywarden/engine/LockMode", "conflictsWith", "(Lcom/example/key_warden/keywarden/engine/LockMode;)Z"⟩ : MethodName) prog_26_method_6_code 3 (some .boolean)] ({ frames := 0, cells := 0, slots := 0, locals := 0 } : Room)) (fun a U => a = #[(.ref r1), (.ref r1)] ∧ Z.Warmed39 U.vm ∧ U.heap = h0) (fun _ _ _ _ _ => True) (fun _ U o U' => ∃ v L, o = .returned v ∧ own_QP (some (.int (0 : Int32))) n0 h0 v U'.heap L ∧ FrameEnd U o U' L ({ frames := 0, cells := 0, slots := 0, locals := 0 } : Room).cells ({ frames := 0, cells := 0, slots := 0, locals := 0 } : Room).slots) := by
  refine MetFree.of_bodySF (plainFor_of_name pn_9) hisR ?_
  intro p e s m args below meth c s₁ Bd hml0 hP hK
  obtain ⟨rfl, hZ, hh⟩ := hP
  have hx := Bd.exec
  have hby := Bd.bytes
  have hml : c.maxLocals = 3 := hml0
  have hown : s.vm.findClass "com/example/key_warden/keywarden/engine/LockMode" = some m.cls := findClass_of_methodNamed Bd.named
  have hnm := (name_of_methodNamed Bd.named Bd.method).1
  have X0 : Stand p l e ({ frames := 0, cells := 0, slots := 0, locals := 0 } : Room) s m #[(.ref r1), (.ref r1)] below meth c s₁ [] 0 0 := Stand.of_body Bd
  have e0 : s₁.heap = h0 := by rw [← hh, Bd.state]; rfl
  have N0 := Fr.nil n0
  have pre0 : ∀ t, Steps p.tables e below (s₁.setTop (mkF m 0 #[.val (.ref r1), .val (.ref r1), .unset] [])) t → Steps p.tables e below (s₁.setTop (entryFrame m #[(.ref r1), (.ref r1)] 3)) t := fun t k => castTop (ef_4_RR m r1 r1) k
  obtain ⟨T1, X1, e1, st1⟩ := getF X0 hx hZ hown (host := "") (Or.inl (hw _ (List.mem_of_getElem? (i := 21) rfl))) Via.refl e0 P1 (g := (mkF m 1 #[.val (.ref r1), .val (.ref r1), .unset] [(.ref r1)])) rfl rfl (hb hby d4_1)
  obtain ⟨T2, X2, e2, st2⟩ := getF X1 hx hZ hown (host := "") (Or.inl (hw _ (List.mem_of_getElem? (i := 23) rfl))) Via.refl e1 P2 (g := (mkF m 20 #[.val (.ref r1), .val (.ref r1), .unset] [(.ref r1)])) rfl rfl (hb hby d4_20)
  obtain ⟨T3, X3, e3, st3⟩ := getF X2 hx hZ hown (host := "") (Or.inl (hw _ (List.mem_of_getElem? (i := 23) rfl))) Via.refl e2 P2 (g := (mkF m 27 #[.val (.ref r1), .val (.ref r1), .unset] [(.ref r1)])) rfl rfl (hb hby d4_27)
  obtain ⟨T4, X4, e4, st4⟩ := getF X3 hx hZ hown (host := "") (Or.inl (hw _ (List.mem_of_getElem? (i := 25) rfl))) Via.refl e3 P3 (g := (mkF m 57 #[.val (.ref r1), .val (.ref r1), .unset] [(.ref r1)])) rfl rfl (hb hby d4_57)
  obtain ⟨T5, X5, e5, st5⟩ := getF X4 hx hZ hown (host := "") (Or.inl (hw _ (List.mem_of_getElem? (i := 25) rfl))) Via.refl e4 P3 (g := (mkF m 87 #[.val (.ref r1), .val (.ref r1), .unset] [(.ref r1)])) rfl rfl (hb hby d4_87)
  obtain ⟨T6, X6, e6, st6⟩ := getF X5 hx hZ hown (host := "") (Or.inl (hw _ (List.mem_of_getElem? (i := 27) rfl))) Via.refl e5 P4 (g := (mkF m 99 #[.val (.ref r1), .val (.ref r1), .unset] [(.ref r1)])) rfl rfl (hb hby d4_99)
  obtain ⟨T7, X7, e7, st7⟩ := getF X6 hx hZ hown (host := "") (Or.inl (hw _ (List.mem_of_getElem? (i := 27) rfl))) Via.refl e6 P4 (g := (mkF m 106 #[.val (.ref r1), .val (.ref r1), .unset] [(.ref r1)])) rfl rfl (hb hby d4_106)
  obtain ⟨T8, X8, e8, st8⟩ := getF X7 hx hZ hown (host := "") (Or.inl (hw _ (List.mem_of_getElem? (i := 29) rfl))) Via.refl e7 P5 (g := (mkF m 113 #[.val (.ref r1), .val (.ref r1), .unset] [(.ref r1)])) rfl rfl (hb hby d4_113)
  obtain ⟨T9, X9, e9, st9⟩ := getF X8 hx hZ hown (host := "") (Or.inl (hw _ (List.mem_of_getElem? (i := 29) rfl))) Via.refl e8 P5 (g := (mkF m 120 #[.val (.ref r1), .val (.ref r1), .unset] [(.ref r1)])) rfl rfl (hb hby d4_120)
  obtain ⟨fs, hr, hrun, hended, hW, hsame⟩ := X9.leave (v := (some (.int (0 : Int32)))) (fun h => by rw [Bd.returns] at h; cases h)
  refine ⟨_, _, pre0 _ ?_, hrun, hended, _, _, rfl, ?_, ⟨_, rfl⟩, hW, hsame.mono (by decide) (by decide)⟩
  · show Steps p.tables e below (s₁.setTop (mkF m 0 #[.val (.ref r1), .val (.ref r1), .unset] [])) _
    refine XS.aloadN X0.here hx rfl (hb hby d4_0) rfl rfl ?_
    show Steps p.tables e below (s₁.setTop (mkF m 1 #[.val (.ref r1), .val (.ref r1), .unset] [(.ref r1)])) _
    refine st1 _ ?_
    show Steps p.tables e below (T1.setTop (mkF m 4 #[.val (.ref r1), .val (.ref r1), .unset] [(.int (0 : Int32))])) _
    refine XS.ifYes X1.here hx rfl (pc0 := 4) (pc' := 19) rfl (hb hby d4_4) rfl (by decide) (by decide) (by decide) ?_
    show Steps p.tables e below (T1.setTop (mkF m 19 #[.val (.ref r1), .val (.ref r1), .unset] [])) _
    refine XS.aloadN X1.here hx rfl (hb hby d4_19) rfl rfl ?_
    show Steps p.tables e below (T1.setTop (mkF m 20 #[.val (.ref r1), .val (.ref r1), .unset] [(.ref r1)])) _
    refine st2 _ ?_
    show Steps p.tables e below (T2.setTop (mkF m 23 #[.val (.ref r1), .val (.ref r1), .unset] [(.int (0 : Int32))])) _
    refine XS.ifNo X2.here hx rfl (hb hby d4_23) rfl (by decide) ?_
    show Steps p.tables e below (T2.setTop (mkF m 26 #[.val (.ref r1), .val (.ref r1), .unset] [])) _
    refine XS.aloadN X2.here hx rfl (hb hby d4_26) rfl rfl ?_
    show Steps p.tables e below (T2.setTop (mkF m 27 #[.val (.ref r1), .val (.ref r1), .unset] [(.ref r1)])) _
    refine st3 _ ?_
    show Steps p.tables e below (T3.setTop (mkF m 30 #[.val (.ref r1), .val (.ref r1), .unset] [(.int (0 : Int32))])) _
    refine XS.ifYes X3.here hx rfl (pc0 := 30) (pc' := 56) rfl (hb hby d4_30) rfl (by decide) (by decide) (by decide) ?_
    show Steps p.tables e below (T3.setTop (mkF m 56 #[.val (.ref r1), .val (.ref r1), .unset] [])) _
    refine XS.aloadN X3.here hx rfl (hb hby d4_56) rfl rfl ?_
    show Steps p.tables e below (T3.setTop (mkF m 57 #[.val (.ref r1), .val (.ref r1), .unset] [(.ref r1)])) _
    refine st4 _ ?_
    show Steps p.tables e below (T4.setTop (mkF m 60 #[.val (.ref r1), .val (.ref r1), .unset] [(.int (0 : Int32))])) _
    refine XS.ifYes X4.here hx rfl (pc0 := 60) (pc' := 86) rfl (hb hby d4_60) rfl (by decide) (by decide) (by decide) ?_
    show Steps p.tables e below (T4.setTop (mkF m 86 #[.val (.ref r1), .val (.ref r1), .unset] [])) _
    refine XS.aloadN X4.here hx rfl (hb hby d4_86) rfl rfl ?_
    show Steps p.tables e below (T4.setTop (mkF m 87 #[.val (.ref r1), .val (.ref r1), .unset] [(.ref r1)])) _
    refine st5 _ ?_
    show Steps p.tables e below (T5.setTop (mkF m 90 #[.val (.ref r1), .val (.ref r1), .unset] [(.int (0 : Int32))])) _
    refine XS.ifYes X5.here hx rfl (pc0 := 90) (pc' := 98) rfl (hb hby d4_90) rfl (by decide) (by decide) (by decide) ?_
    show Steps p.tables e below (T5.setTop (mkF m 98 #[.val (.ref r1), .val (.ref r1), .unset] [])) _
    refine XS.aloadN X5.here hx rfl (hb hby d4_98) rfl rfl ?_
    show Steps p.tables e below (T5.setTop (mkF m 99 #[.val (.ref r1), .val (.ref r1), .unset] [(.ref r1)])) _
    refine st6 _ ?_
    show Steps p.tables e below (T6.setTop (mkF m 102 #[.val (.ref r1), .val (.ref r1), .unset] [(.int (1 : Int32))])) _
    refine XS.ifNo X6.here hx rfl (hb hby d4_102) rfl (by decide) ?_
    show Steps p.tables e below (T6.setTop (mkF m 105 #[.val (.ref r1), .val (.ref r1), .unset] [])) _
    refine XS.aloadN X6.here hx rfl (hb hby d4_105) rfl rfl ?_
    show Steps p.tables e below (T6.setTop (mkF m 106 #[.val (.ref r1), .val (.ref r1), .unset] [(.ref r1)])) _
    refine st7 _ ?_
    show Steps p.tables e below (T7.setTop (mkF m 109 #[.val (.ref r1), .val (.ref r1), .unset] [(.int (1 : Int32))])) _
    refine XS.ifNo X7.here hx rfl (hb hby d4_109) rfl (by decide) ?_
    show Steps p.tables e below (T7.setTop (mkF m 112 #[.val (.ref r1), .val (.ref r1), .unset] [])) _
    refine XS.aloadN X7.here hx rfl (hb hby d4_112) rfl rfl ?_
    show Steps p.tables e below (T7.setTop (mkF m 113 #[.val (.ref r1), .val (.ref r1), .unset] [(.ref r1)])) _
    refine st8 _ ?_
    show Steps p.tables e below (T8.setTop (mkF m 116 #[.val (.ref r1), .val (.ref r1), .unset] [(.int (1 : Int32))])) _
    refine XS.ifNo X8.here hx rfl (hb hby d4_116) rfl (by decide) ?_
    show Steps p.tables e below (T8.setTop (mkF m 119 #[.val (.ref r1), .val (.ref r1), .unset] [])) _
    refine XS.aloadN X8.here hx rfl (hb hby d4_119) rfl rfl ?_
    show Steps p.tables e below (T8.setTop (mkF m 120 #[.val (.ref r1), .val (.ref r1), .unset] [(.ref r1)])) _
    refine st9 _ ?_
    show Steps p.tables e below (T9.setTop (mkF m 123 #[.val (.ref r1), .val (.ref r1), .unset] [(.int (1 : Int32))])) _
    refine XS.ifYes X9.here hx rfl (pc0 := 123) (pc' := 130) rfl (hb hby d4_123) rfl (by decide) (by decide) (by decide) ?_
    show Steps p.tables e below (T9.setTop (mkF m 130 #[.val (.ref r1), .val (.ref r1), .unset] [])) _
    refine XS.iconst X9.here hx rfl (hb hby d4_130) ?_
    show Steps p.tables e below (T9.setTop (mkF m 131 #[.val (.ref r1), .val (.ref r1), .unset] [(.int (0 : Int32))])) _
    refine XS.istoreN X9.here hx rfl (hb hby d4_131) rfl (l' := #[.val (.ref r1), .val (.ref r1), .val (.int (0 : Int32))]) rfl ?_
    show Steps p.tables e below (T9.setTop (mkF m 132 #[.val (.ref r1), .val (.ref r1), .val (.int (0 : Int32))] [])) _
    refine XS.iloadN X9.here hx rfl (hb hby d4_132) rfl ?_
    show Steps p.tables e below (T9.setTop (mkF m 133 #[.val (.ref r1), .val (.ref r1), .val (.int (0 : Int32))] [(.int (0 : Int32))])) _
    exact retN X9 hx (t := .boolean) Bd.returns (by simp) (hb hby d4_133) hr
  · show own_QP (some (.int (0 : Int32))) n0 h0 _ T9.heap _
    rw [e9]
    exact ⟨rfl, N0, rfl⟩
set_option maxRecDepth 65536 in
set_option maxHeartbeats 40000000 in
theorem rm4_8 (l : Launch) (Z : State) (a0 : Array Value) (hw : ∀ d ∈ tables_1, d.before a0 Z = true) (r1 : Addr) (r2 : Addr) (h0 : Heap) (n0 : Nat) (O0 : Old Z n0 h0) (P1 : Fld Z h0 r1 "com/example/key_warden/keywarden/engine/LockMode" "intention" "Z" (.int (0 : Int32))) (P2 : Fld Z h0 r1 "com/example/key_warden/keywarden/engine/LockMode" "keyLock" "Z" (.int (0 : Int32))) (P3 : Fld Z h0 r2 "com/example/key_warden/keywarden/engine/LockMode" "keyLock" "Z" (.int (0 : Int32))) (P4 : Fld Z h0 r1 "com/example/key_warden/keywarden/engine/LockMode" "insertIntention" "Z" (.int (0 : Int32))) (P5 : Fld Z h0 r2 "com/example/key_warden/keywarden/engine/LockMode" "insertIntention" "Z" (.int (0 : Int32))) (P6 : Fld Z h0 r1 "com/example/key_warden/keywarden/engine/LockMode" "coversTarget" "Z" (.int (1 : Int32))) (P7 : Fld Z h0 r2 "com/example/key_warden/keywarden/engine/LockMode" "coversTarget" "Z" (.int (1 : Int32))) (P8 : Fld Z h0 r1 "com/example/key_warden/keywarden/engine/LockMode" "shared" "Z" (.int (1 : Int32))) (P9 : Fld Z h0 r2 "com/example/key_warden/keywarden/engine/LockMode" "shared" "Z" (.int (1 : Int32))) :
    MetFree l (⟨"com/example/key_warden/keywarden/engine/LockMode", "conflictsWith", "(Lcom/example/key_warden/keywarden/engine/LockMode;)Z"⟩ : MethodName) (head1 [Jvm.Cond.code (⟨"com/example/key_warden/keywarden/engine/LockMode", "conflictsWith", "(Lcom/example/key_warden/keywarden/engine/LockMode;)Z"⟩ : MethodName) prog_26_method_6_code 3 (some .boolean)] ({ frames := 0, cells := 0, slots := 0, locals := 0 } : Room)) (fun a U => a = #[(.ref r1), (.ref r2)] ∧ Z.Warmed39 U.vm ∧ U.heap = h0) (fun _ _ _ _ _ => True) (fun _ U o U' => ∃ v L, o = .returned v ∧ own_QP (some (.int (0 : Int32))) n0 h0 v U'.heap L ∧ FrameEnd U o U' L ({ frames := 0, cells := 0, slots := 0, locals := 0 } : Room).cells ({ frames := 0, cells := 0, slots := 0, locals := 0 } : Room).slots) := by
  refine MetFree.of_bodySF (plainFor_of_name pn_9) hisR ?_
  intro p e s m args below meth c s₁ Bd hml0 hP hK
  obtain ⟨rfl, hZ, hh⟩ := hP
  have hx := Bd.exec
  have hby := Bd.bytes
  have hml : c.maxLocals = 3 := hml0
  have hown : s.vm.findClass "com/example/key_warden/keywarden/engine/LockMode" = some m.cls := findClass_of_methodNamed Bd.named
  have hnm := (name_of_methodNamed Bd.named Bd.method).1
  have X0 : Stand p l e ({ frames := 0, cells := 0, slots := 0, locals := 0 } : Room) s m #[(.ref r1), (.ref r2)] below meth c s₁ [] 0 0 := Stand.of_body Bd
  have e0 : s₁.heap = h0 := by rw [← hh, Bd.state]; rfl
  have N0 := Fr.nil n0
  have pre0 : ∀ t, Steps p.tables e below (s₁.setTop (mkF m 0 #[.val (.ref r1), .val (.ref r2), .unset] [])) t → Steps p.tables e below (s₁.setTop (entryFrame m #[(.ref r1), (.ref r2)] 3)) t := fun t k => castTop (ef_4_RR m r1 r2) k
  obtain ⟨T1, X1, e1, st1⟩ := getF X0 hx hZ hown (host := "") (Or.inl (hw _ (List.mem_of_getElem? (i := 21) rfl))) Via.refl e0 P1 (g := (mkF m 1 #[.val (.ref r1), .val (.ref r2), .unset] [(.ref r1)])) rfl rfl (hb hby d4_1)
  obtain ⟨T2, X2, e2, st2⟩ := getF X1 hx hZ hown (host := "") (Or.inl (hw _ (List.mem_of_getElem? (i := 23) rfl))) Via.refl e1 P2 (g := (mkF m 20 #[.val (.ref r1), .val (.ref r2), .unset] [(.ref r1)])) rfl rfl (hb hby d4_20)
  obtain ⟨T3, X3, e3, st3⟩ := getF X2 hx hZ hown (host := "") (Or.inl (hw _ (List.mem_of_getElem? (i := 23) rfl))) Via.refl e2 P3 (g := (mkF m 27 #[.val (.ref r1), .val (.ref r2), .unset] [(.ref r2)])) rfl rfl (hb hby d4_27)
  obtain ⟨T4, X4, e4, st4⟩ := getF X3 hx hZ hown (host := "") (Or.inl (hw _ (List.mem_of_getElem? (i := 25) rfl))) Via.refl e3 P4 (g := (mkF m 57 #[.val (.ref r1), .val (.ref r2), .unset] [(.ref r1)])) rfl rfl (hb hby d4_57)
  obtain ⟨T5, X5, e5, st5⟩ := getF X4 hx hZ hown (host := "") (Or.inl (hw _ (List.mem_of_getElem? (i := 25) rfl))) Via.refl e4 P5 (g := (mkF m 87 #[.val (.ref r1), .val (.ref r2), .unset] [(.ref r2)])) rfl rfl (hb hby d4_87)
  obtain ⟨T6, X6, e6, st6⟩ := getF X5 hx hZ hown (host := "") (Or.inl (hw _ (List.mem_of_getElem? (i := 27) rfl))) Via.refl e5 P6 (g := (mkF m 99 #[.val (.ref r1), .val (.ref r2), .unset] [(.ref r1)])) rfl rfl (hb hby d4_99)
  obtain ⟨T7, X7, e7, st7⟩ := getF X6 hx hZ hown (host := "") (Or.inl (hw _ (List.mem_of_getElem? (i := 27) rfl))) Via.refl e6 P7 (g := (mkF m 106 #[.val (.ref r1), .val (.ref r2), .unset] [(.ref r2)])) rfl rfl (hb hby d4_106)
  obtain ⟨T8, X8, e8, st8⟩ := getF X7 hx hZ hown (host := "") (Or.inl (hw _ (List.mem_of_getElem? (i := 29) rfl))) Via.refl e7 P8 (g := (mkF m 113 #[.val (.ref r1), .val (.ref r2), .unset] [(.ref r1)])) rfl rfl (hb hby d4_113)
  obtain ⟨T9, X9, e9, st9⟩ := getF X8 hx hZ hown (host := "") (Or.inl (hw _ (List.mem_of_getElem? (i := 29) rfl))) Via.refl e8 P9 (g := (mkF m 120 #[.val (.ref r1), .val (.ref r2), .unset] [(.ref r2)])) rfl rfl (hb hby d4_120)
  obtain ⟨fs, hr, hrun, hended, hW, hsame⟩ := X9.leave (v := (some (.int (0 : Int32)))) (fun h => by rw [Bd.returns] at h; cases h)
  refine ⟨_, _, pre0 _ ?_, hrun, hended, _, _, rfl, ?_, ⟨_, rfl⟩, hW, hsame.mono (by decide) (by decide)⟩
  · show Steps p.tables e below (s₁.setTop (mkF m 0 #[.val (.ref r1), .val (.ref r2), .unset] [])) _
    refine XS.aloadN X0.here hx rfl (hb hby d4_0) rfl rfl ?_
    show Steps p.tables e below (s₁.setTop (mkF m 1 #[.val (.ref r1), .val (.ref r2), .unset] [(.ref r1)])) _
    refine st1 _ ?_
    show Steps p.tables e below (T1.setTop (mkF m 4 #[.val (.ref r1), .val (.ref r2), .unset] [(.int (0 : Int32))])) _
    refine XS.ifYes X1.here hx rfl (pc0 := 4) (pc' := 19) rfl (hb hby d4_4) rfl (by decide) (by decide) (by decide) ?_
    show Steps p.tables e below (T1.setTop (mkF m 19 #[.val (.ref r1), .val (.ref r2), .unset] [])) _
    refine XS.aloadN X1.here hx rfl (hb hby d4_19) rfl rfl ?_
    show Steps p.tables e below (T1.setTop (mkF m 20 #[.val (.ref r1), .val (.ref r2), .unset] [(.ref r1)])) _
    refine st2 _ ?_
    show Steps p.tables e below (T2.setTop (mkF m 23 #[.val (.ref r1), .val (.ref r2), .unset] [(.int (0 : Int32))])) _
    refine XS.ifNo X2.here hx rfl (hb hby d4_23) rfl (by decide) ?_
    show Steps p.tables e below (T2.setTop (mkF m 26 #[.val (.ref r1), .val (.ref r2), .unset] [])) _
    refine XS.aloadN X2.here hx rfl (hb hby d4_26) rfl rfl ?_
    show Steps p.tables e below (T2.setTop (mkF m 27 #[.val (.ref r1), .val (.ref r2), .unset] [(.ref r2)])) _
    refine st3 _ ?_
    show Steps p.tables e below (T3.setTop (mkF m 30 #[.val (.ref r1), .val (.ref r2), .unset] [(.int (0 : Int32))])) _
    refine XS.ifYes X3.here hx rfl (pc0 := 30) (pc' := 56) rfl (hb hby d4_30) rfl (by decide) (by decide) (by decide) ?_
    show Steps p.tables e below (T3.setTop (mkF m 56 #[.val (.ref r1), .val (.ref r2), .unset] [])) _
    refine XS.aloadN X3.here hx rfl (hb hby d4_56) rfl rfl ?_
    show Steps p.tables e below (T3.setTop (mkF m 57 #[.val (.ref r1), .val (.ref r2), .unset] [(.ref r1)])) _
    refine st4 _ ?_
    show Steps p.tables e below (T4.setTop (mkF m 60 #[.val (.ref r1), .val (.ref r2), .unset] [(.int (0 : Int32))])) _
    refine XS.ifYes X4.here hx rfl (pc0 := 60) (pc' := 86) rfl (hb hby d4_60) rfl (by decide) (by decide) (by decide) ?_
    show Steps p.tables e below (T4.setTop (mkF m 86 #[.val (.ref r1), .val (.ref r2), .unset] [])) _
    refine XS.aloadN X4.here hx rfl (hb hby d4_86) rfl rfl ?_
    show Steps p.tables e below (T4.setTop (mkF m 87 #[.val (.ref r1), .val (.ref r2), .unset] [(.ref r2)])) _
    refine st5 _ ?_
    show Steps p.tables e below (T5.setTop (mkF m 90 #[.val (.ref r1), .val (.ref r2), .unset] [(.int (0 : Int32))])) _
    refine XS.ifYes X5.here hx rfl (pc0 := 90) (pc' := 98) rfl (hb hby d4_90) rfl (by decide) (by decide) (by decide) ?_
    show Steps p.tables e below (T5.setTop (mkF m 98 #[.val (.ref r1), .val (.ref r2), .unset] [])) _
    refine XS.aloadN X5.here hx rfl (hb hby d4_98) rfl rfl ?_
    show Steps p.tables e below (T5.setTop (mkF m 99 #[.val (.ref r1), .val (.ref r2), .unset] [(.ref r1)])) _
    refine st6 _ ?_
    show Steps p.tables e below (T6.setTop (mkF m 102 #[.val (.ref r1), .val (.ref r2), .unset] [(.int (1 : Int32))])) _
    refine XS.ifNo X6.here hx rfl (hb hby d4_102) rfl (by decide) ?_
    show Steps p.tables e below (T6.setTop (mkF m 105 #[.val (.ref r1), .val (.ref r2), .unset] [])) _
    refine XS.aloadN X6.here hx rfl (hb hby d4_105) rfl rfl ?_
    show Steps p.tables e below (T6.setTop (mkF m 106 #[.val (.ref r1), .val (.ref r2), .unset] [(.ref r2)])) _
    refine st7 _ ?_
    show Steps p.tables e below (T7.setTop (mkF m 109 #[.val (.ref r1), .val (.ref r2), .unset] [(.int (1 : Int32))])) _
    refine XS.ifNo X7.here hx rfl (hb hby d4_109) rfl (by decide) ?_
    show Steps p.tables e below (T7.setTop (mkF m 112 #[.val (.ref r1), .val (.ref r2), .unset] [])) _
    refine XS.aloadN X7.here hx rfl (hb hby d4_112) rfl rfl ?_
    show Steps p.tables e below (T7.setTop (mkF m 113 #[.val (.ref r1), .val (.ref r2), .unset] [(.ref r1)])) _
    refine st8 _ ?_
    show Steps p.tables e below (T8.setTop (mkF m 116 #[.val (.ref r1), .val (.ref r2), .unset] [(.int (1 : Int32))])) _
    refine XS.ifNo X8.here hx rfl (hb hby d4_116) rfl (by decide) ?_
    show Steps p.tables e below (T8.setTop (mkF m 119 #[.val (.ref r1), .val (.ref r2), .unset] [])) _
    refine XS.aloadN X8.here hx rfl (hb hby d4_119) rfl rfl ?_
    show Steps p.tables e below (T8.setTop (mkF m 120 #[.val (.ref r1), .val (.ref r2), .unset] [(.ref r2)])) _
    refine st9 _ ?_
    show Steps p.tables e below (T9.setTop (mkF m 123 #[.val (.ref r1), .val (.ref r2), .unset] [(.int (1 : Int32))])) _
    refine XS.ifYes X9.here hx rfl (pc0 := 123) (pc' := 130) rfl (hb hby d4_123) rfl (by decide) (by decide) (by decide) ?_
    show Steps p.tables e below (T9.setTop (mkF m 130 #[.val (.ref r1), .val (.ref r2), .unset] [])) _
    refine XS.iconst X9.here hx rfl (hb hby d4_130) ?_
    show Steps p.tables e below (T9.setTop (mkF m 131 #[.val (.ref r1), .val (.ref r2), .unset] [(.int (0 : Int32))])) _
    refine XS.istoreN X9.here hx rfl (hb hby d4_131) rfl (l' := #[.val (.ref r1), .val (.ref r2), .val (.int (0 : Int32))]) rfl ?_
    show Steps p.tables e below (T9.setTop (mkF m 132 #[.val (.ref r1), .val (.ref r2), .val (.int (0 : Int32))] [])) _
    refine XS.iloadN X9.here hx rfl (hb hby d4_132) rfl ?_
    show Steps p.tables e below (T9.setTop (mkF m 133 #[.val (.ref r1), .val (.ref r2), .val (.int (0 : Int32))] [(.int (0 : Int32))])) _
    exact retN X9 hx (t := .boolean) Bd.returns (by simp) (hb hby d4_133) hr
  · show own_QP (some (.int (0 : Int32))) n0 h0 _ T9.heap _
    rw [e9]
    exact ⟨rfl, N0, rfl⟩
set_option maxRecDepth 65536 in
set_option maxHeartbeats 40000000 in
theorem rm2_4 (l : Launch) (Z : State) (a0 : Array Value) (hw : ∀ d ∈ tables_1, d.before a0 Z = true)  (h0 : Heap) (n0 : Nat) (O0 : Old Z n0 h0)  :
    MetFree l (⟨"com/example/key_warden/keywarden/engine/LockModeConflictsWithPinLaw", "row", "(I)I"⟩ : MethodName) (head1 [Jvm.Cond.code (⟨"com/example/key_warden/keywarden/engine/LockModeConflictsWithPinLaw", "row", "(I)I"⟩ : MethodName) method_4_code 1 (some .int)] ({ frames := 0, cells := 0, slots := 0, locals := 0 } : Room)) (fun a U => a = #[(.int (6 : Int32))] ∧ Z.Warmed39 U.vm ∧ U.heap = h0) (fun _ _ _ _ _ => True) (fun _ U o U' => ∃ v L, o = .returned v ∧ own_QP (some (.int (12 : Int32))) n0 h0 v U'.heap L ∧ FrameEnd U o U' L ({ frames := 0, cells := 0, slots := 0, locals := 0 } : Room).cells ({ frames := 0, cells := 0, slots := 0, locals := 0 } : Room).slots) := by
  refine MetFree.of_bodySF (plainFor_of_name pn_4) hisR ?_
  intro p e s m args below meth c s₁ Bd hml0 hP hK
  obtain ⟨rfl, hZ, hh⟩ := hP
  have hx := Bd.exec
  have hby := Bd.bytes
  have hml : c.maxLocals = 1 := hml0
  have hown : s.vm.findClass "com/example/key_warden/keywarden/engine/LockModeConflictsWithPinLaw" = some m.cls := findClass_of_methodNamed Bd.named
  have hnm := (name_of_methodNamed Bd.named Bd.method).1
  have X0 : Stand p l e ({ frames := 0, cells := 0, slots := 0, locals := 0 } : Room) s m #[(.int (6 : Int32))] below meth c s₁ [] 0 0 := Stand.of_body Bd
  have e0 : s₁.heap = h0 := by rw [← hh, Bd.state]; rfl
  have N0 := Fr.nil n0
  have pre0 : ∀ t, Steps p.tables e below (s₁.setTop (mkF m 0 #[.val (.int (6 : Int32))] [])) t → Steps p.tables e below (s₁.setTop (entryFrame m #[(.int (6 : Int32))] 1)) t := fun t k => castTop (ef_2_I m (6 : Int32)) k
  obtain ⟨fs, hr, hrun, hended, hW, hsame⟩ := X0.leave (v := (some (.int (12 : Int32)))) (fun h => by rw [Bd.returns] at h; cases h)
  refine ⟨_, _, pre0 _ ?_, hrun, hended, _, _, rfl, ?_, ⟨_, rfl⟩, hW, hsame.mono (by decide) (by decide)⟩
  · show Steps p.tables e below (s₁.setTop (mkF m 0 #[.val (.int (6 : Int32))] [])) _
    refine XS.iloadN X0.here hx rfl (hb hby d2_0) rfl ?_
    show Steps p.tables e below (s₁.setTop (mkF m 1 #[.val (.int (6 : Int32))] [(.int (6 : Int32))])) _
    refine XS.iconst X0.here hx rfl (hb hby d2_1) ?_
    show Steps p.tables e below (s₁.setTop (mkF m 2 #[.val (.int (6 : Int32))] [(.int (2 : Int32)), (.int (6 : Int32))])) _
    refine XS.icmpNo X0.here hx rfl (hb hby d2_2) rfl (by decide) ?_
    show Steps p.tables e below (s₁.setTop (mkF m 5 #[.val (.int (6 : Int32))] [])) _
    refine XS.iloadN X0.here hx rfl (hb hby d2_5) rfl ?_
    show Steps p.tables e below (s₁.setTop (mkF m 6 #[.val (.int (6 : Int32))] [(.int (6 : Int32))])) _
    refine XS.iconst X0.here hx rfl (hb hby d2_6) ?_
    show Steps p.tables e below (s₁.setTop (mkF m 7 #[.val (.int (6 : Int32))] [(.int (3 : Int32)), (.int (6 : Int32))])) _
    refine XS.icmpYes X0.here hx rfl (pc0 := 7) (pc' := 13) rfl (hb hby d2_7) rfl (by decide) (by decide) (by decide) ?_
    show Steps p.tables e below (s₁.setTop (mkF m 13 #[.val (.int (6 : Int32))] [])) _
    refine XS.iloadN X0.here hx rfl (hb hby d2_13) rfl ?_
    show Steps p.tables e below (s₁.setTop (mkF m 14 #[.val (.int (6 : Int32))] [(.int (6 : Int32))])) _
    refine XS.iconst X0.here hx rfl (hb hby d2_14) ?_
    show Steps p.tables e below (s₁.setTop (mkF m 15 #[.val (.int (6 : Int32))] [(.int (5 : Int32)), (.int (6 : Int32))])) _
    refine XS.icmpNo X0.here hx rfl (hb hby d2_15) rfl (by decide) ?_
    show Steps p.tables e below (s₁.setTop (mkF m 18 #[.val (.int (6 : Int32))] [])) _
    refine XS.iloadN X0.here hx rfl (hb hby d2_18) rfl ?_
    show Steps p.tables e below (s₁.setTop (mkF m 19 #[.val (.int (6 : Int32))] [(.int (6 : Int32))])) _
    refine XS.bipush X0.here hx rfl (hb hby d2_19) ?_
    show Steps p.tables e below (s₁.setTop (mkF m 21 #[.val (.int (6 : Int32))] [(.int (6 : Int32)), (.int (6 : Int32))])) _
    refine XS.icmpNo X0.here hx rfl (hb hby d2_21) rfl (by decide) ?_
    show Steps p.tables e below (s₁.setTop (mkF m 24 #[.val (.int (6 : Int32))] [])) _
    refine XS.bipush X0.here hx rfl (hb hby d2_24) ?_
    show Steps p.tables e below (s₁.setTop (mkF m 26 #[.val (.int (6 : Int32))] [(.int (12 : Int32))])) _
    exact retI X0 hx Bd.returns (hb hby d2_26) hr
  · show own_QP (some (.int (12 : Int32))) n0 h0 _ s₁.heap _
    rw [e0]
    exact ⟨rfl, N0, rfl⟩
set_option maxRecDepth 65536 in
set_option maxHeartbeats 40000000 in
theorem rm2_5 (l : Launch) (Z : State) (a0 : Array Value) (hw : ∀ d ∈ tables_1, d.before a0 Z = true)  (h0 : Heap) (n0 : Nat) (O0 : Old Z n0 h0)  :
    MetFree l (⟨"com/example/key_warden/keywarden/engine/LockModeConflictsWithPinLaw", "row", "(I)I"⟩ : MethodName) (head1 [Jvm.Cond.code (⟨"com/example/key_warden/keywarden/engine/LockModeConflictsWithPinLaw", "row", "(I)I"⟩ : MethodName) method_4_code 1 (some .int)] ({ frames := 0, cells := 0, slots := 0, locals := 0 } : Room)) (fun a U => a = #[(.int (7 : Int32))] ∧ Z.Warmed39 U.vm ∧ U.heap = h0) (fun _ _ _ _ _ => True) (fun _ U o U' => ∃ v L, o = .returned v ∧ own_QP (some (.int (0 : Int32))) n0 h0 v U'.heap L ∧ FrameEnd U o U' L ({ frames := 0, cells := 0, slots := 0, locals := 0 } : Room).cells ({ frames := 0, cells := 0, slots := 0, locals := 0 } : Room).slots) := by
  refine MetFree.of_bodySF (plainFor_of_name pn_4) hisR ?_
  intro p e s m args below meth c s₁ Bd hml0 hP hK
  obtain ⟨rfl, hZ, hh⟩ := hP
  have hx := Bd.exec
  have hby := Bd.bytes
  have hml : c.maxLocals = 1 := hml0
  have hown : s.vm.findClass "com/example/key_warden/keywarden/engine/LockModeConflictsWithPinLaw" = some m.cls := findClass_of_methodNamed Bd.named
  have hnm := (name_of_methodNamed Bd.named Bd.method).1
  have X0 : Stand p l e ({ frames := 0, cells := 0, slots := 0, locals := 0 } : Room) s m #[(.int (7 : Int32))] below meth c s₁ [] 0 0 := Stand.of_body Bd
  have e0 : s₁.heap = h0 := by rw [← hh, Bd.state]; rfl
  have N0 := Fr.nil n0
  have pre0 : ∀ t, Steps p.tables e below (s₁.setTop (mkF m 0 #[.val (.int (7 : Int32))] [])) t → Steps p.tables e below (s₁.setTop (entryFrame m #[(.int (7 : Int32))] 1)) t := fun t k => castTop (ef_2_I m (7 : Int32)) k
  obtain ⟨fs, hr, hrun, hended, hW, hsame⟩ := X0.leave (v := (some (.int (0 : Int32)))) (fun h => by rw [Bd.returns] at h; cases h)
  refine ⟨_, _, pre0 _ ?_, hrun, hended, _, _, rfl, ?_, ⟨_, rfl⟩, hW, hsame.mono (by decide) (by decide)⟩
  · show Steps p.tables e below (s₁.setTop (mkF m 0 #[.val (.int (7 : Int32))] [])) _
    refine XS.iloadN X0.here hx rfl (hb hby d2_0) rfl ?_
    show Steps p.tables e below (s₁.setTop (mkF m 1 #[.val (.int (7 : Int32))] [(.int (7 : Int32))])) _
    refine XS.iconst X0.here hx rfl (hb hby d2_1) ?_
    show Steps p.tables e below (s₁.setTop (mkF m 2 #[.val (.int (7 : Int32))] [(.int (2 : Int32)), (.int (7 : Int32))])) _
    refine XS.icmpNo X0.here hx rfl (hb hby d2_2) rfl (by decide) ?_
    show Steps p.tables e below (s₁.setTop (mkF m 5 #[.val (.int (7 : Int32))] [])) _
    refine XS.iloadN X0.here hx rfl (hb hby d2_5) rfl ?_
    show Steps p.tables e below (s₁.setTop (mkF m 6 #[.val (.int (7 : Int32))] [(.int (7 : Int32))])) _
    refine XS.iconst X0.here hx rfl (hb hby d2_6) ?_
    show Steps p.tables e below (s₁.setTop (mkF m 7 #[.val (.int (7 : Int32))] [(.int (3 : Int32)), (.int (7 : Int32))])) _
    refine XS.icmpYes X0.here hx rfl (pc0 := 7) (pc' := 13) rfl (hb hby d2_7) rfl (by decide) (by decide) (by decide) ?_
    show Steps p.tables e below (s₁.setTop (mkF m 13 #[.val (.int (7 : Int32))] [])) _
    refine XS.iloadN X0.here hx rfl (hb hby d2_13) rfl ?_
    show Steps p.tables e below (s₁.setTop (mkF m 14 #[.val (.int (7 : Int32))] [(.int (7 : Int32))])) _
    refine XS.iconst X0.here hx rfl (hb hby d2_14) ?_
    show Steps p.tables e below (s₁.setTop (mkF m 15 #[.val (.int (7 : Int32))] [(.int (5 : Int32)), (.int (7 : Int32))])) _
    refine XS.icmpNo X0.here hx rfl (hb hby d2_15) rfl (by decide) ?_
    show Steps p.tables e below (s₁.setTop (mkF m 18 #[.val (.int (7 : Int32))] [])) _
    refine XS.iloadN X0.here hx rfl (hb hby d2_18) rfl ?_
    show Steps p.tables e below (s₁.setTop (mkF m 19 #[.val (.int (7 : Int32))] [(.int (7 : Int32))])) _
    refine XS.bipush X0.here hx rfl (hb hby d2_19) ?_
    show Steps p.tables e below (s₁.setTop (mkF m 21 #[.val (.int (7 : Int32))] [(.int (6 : Int32)), (.int (7 : Int32))])) _
    refine XS.icmpYes X0.here hx rfl (pc0 := 21) (pc' := 27) rfl (hb hby d2_21) rfl (by decide) (by decide) (by decide) ?_
    show Steps p.tables e below (s₁.setTop (mkF m 27 #[.val (.int (7 : Int32))] [])) _
    refine XS.iloadN X0.here hx rfl (hb hby d2_27) rfl ?_
    show Steps p.tables e below (s₁.setTop (mkF m 28 #[.val (.int (7 : Int32))] [(.int (7 : Int32))])) _
    refine XS.bipush X0.here hx rfl (hb hby d2_28) ?_
    show Steps p.tables e below (s₁.setTop (mkF m 30 #[.val (.int (7 : Int32))] [(.int (8 : Int32)), (.int (7 : Int32))])) _
    refine XS.icmpYes X0.here hx rfl (pc0 := 30) (pc' := 37) rfl (hb hby d2_30) rfl (by decide) (by decide) (by decide) ?_
    show Steps p.tables e below (s₁.setTop (mkF m 37 #[.val (.int (7 : Int32))] [])) _
    refine XS.iloadN X0.here hx rfl (hb hby d2_37) rfl ?_
    show Steps p.tables e below (s₁.setTop (mkF m 38 #[.val (.int (7 : Int32))] [(.int (7 : Int32))])) _
    refine XS.bipush X0.here hx rfl (hb hby d2_38) ?_
    show Steps p.tables e below (s₁.setTop (mkF m 40 #[.val (.int (7 : Int32))] [(.int (9 : Int32)), (.int (7 : Int32))])) _
    refine XS.icmpYes X0.here hx rfl (pc0 := 40) (pc' := 47) rfl (hb hby d2_40) rfl (by decide) (by decide) (by decide) ?_
    show Steps p.tables e below (s₁.setTop (mkF m 47 #[.val (.int (7 : Int32))] [])) _
    refine XS.iconst X0.here hx rfl (hb hby d2_47) ?_
    show Steps p.tables e below (s₁.setTop (mkF m 48 #[.val (.int (7 : Int32))] [(.int (0 : Int32))])) _
    exact retI X0 hx Bd.returns (hb hby d2_48) hr
  · show own_QP (some (.int (0 : Int32))) n0 h0 _ s₁.heap _
    rw [e0]
    exact ⟨rfl, N0, rfl⟩
set_option maxRecDepth 65536 in
set_option maxHeartbeats 40000000 in
theorem rm2_6 (l : Launch) (Z : State) (a0 : Array Value) (hw : ∀ d ∈ tables_1, d.before a0 Z = true)  (h0 : Heap) (n0 : Nat) (O0 : Old Z n0 h0)  :
    MetFree l (⟨"com/example/key_warden/keywarden/engine/LockModeConflictsWithPinLaw", "row", "(I)I"⟩ : MethodName) (head1 [Jvm.Cond.code (⟨"com/example/key_warden/keywarden/engine/LockModeConflictsWithPinLaw", "row", "(I)I"⟩ : MethodName) method_4_code 1 (some .int)] ({ frames := 0, cells := 0, slots := 0, locals := 0 } : Room)) (fun a U => a = #[(.int (8 : Int32))] ∧ Z.Warmed39 U.vm ∧ U.heap = h0) (fun _ _ _ _ _ => True) (fun _ U o U' => ∃ v L, o = .returned v ∧ own_QP (some (.int (180 : Int32))) n0 h0 v U'.heap L ∧ FrameEnd U o U' L ({ frames := 0, cells := 0, slots := 0, locals := 0 } : Room).cells ({ frames := 0, cells := 0, slots := 0, locals := 0 } : Room).slots) := by
  refine MetFree.of_bodySF (plainFor_of_name pn_4) hisR ?_
  intro p e s m args below meth c s₁ Bd hml0 hP hK
  obtain ⟨rfl, hZ, hh⟩ := hP
  have hx := Bd.exec
  have hby := Bd.bytes
  have hml : c.maxLocals = 1 := hml0
  have hown : s.vm.findClass "com/example/key_warden/keywarden/engine/LockModeConflictsWithPinLaw" = some m.cls := findClass_of_methodNamed Bd.named
  have hnm := (name_of_methodNamed Bd.named Bd.method).1
  have X0 : Stand p l e ({ frames := 0, cells := 0, slots := 0, locals := 0 } : Room) s m #[(.int (8 : Int32))] below meth c s₁ [] 0 0 := Stand.of_body Bd
  have e0 : s₁.heap = h0 := by rw [← hh, Bd.state]; rfl
  have N0 := Fr.nil n0
  have pre0 : ∀ t, Steps p.tables e below (s₁.setTop (mkF m 0 #[.val (.int (8 : Int32))] [])) t → Steps p.tables e below (s₁.setTop (entryFrame m #[(.int (8 : Int32))] 1)) t := fun t k => castTop (ef_2_I m (8 : Int32)) k
  obtain ⟨fs, hr, hrun, hended, hW, hsame⟩ := X0.leave (v := (some (.int (180 : Int32)))) (fun h => by rw [Bd.returns] at h; cases h)
  refine ⟨_, _, pre0 _ ?_, hrun, hended, _, _, rfl, ?_, ⟨_, rfl⟩, hW, hsame.mono (by decide) (by decide)⟩
  · show Steps p.tables e below (s₁.setTop (mkF m 0 #[.val (.int (8 : Int32))] [])) _
    refine XS.iloadN X0.here hx rfl (hb hby d2_0) rfl ?_
    show Steps p.tables e below (s₁.setTop (mkF m 1 #[.val (.int (8 : Int32))] [(.int (8 : Int32))])) _
    refine XS.iconst X0.here hx rfl (hb hby d2_1) ?_
    show Steps p.tables e below (s₁.setTop (mkF m 2 #[.val (.int (8 : Int32))] [(.int (2 : Int32)), (.int (8 : Int32))])) _
    refine XS.icmpNo X0.here hx rfl (hb hby d2_2) rfl (by decide) ?_
    show Steps p.tables e below (s₁.setTop (mkF m 5 #[.val (.int (8 : Int32))] [])) _
    refine XS.iloadN X0.here hx rfl (hb hby d2_5) rfl ?_
    show Steps p.tables e below (s₁.setTop (mkF m 6 #[.val (.int (8 : Int32))] [(.int (8 : Int32))])) _
    refine XS.iconst X0.here hx rfl (hb hby d2_6) ?_
    show Steps p.tables e below (s₁.setTop (mkF m 7 #[.val (.int (8 : Int32))] [(.int (3 : Int32)), (.int (8 : Int32))])) _
    refine XS.icmpYes X0.here hx rfl (pc0 := 7) (pc' := 13) rfl (hb hby d2_7) rfl (by decide) (by decide) (by decide) ?_
    show Steps p.tables e below (s₁.setTop (mkF m 13 #[.val (.int (8 : Int32))] [])) _
    refine XS.iloadN X0.here hx rfl (hb hby d2_13) rfl ?_
    show Steps p.tables e below (s₁.setTop (mkF m 14 #[.val (.int (8 : Int32))] [(.int (8 : Int32))])) _
    refine XS.iconst X0.here hx rfl (hb hby d2_14) ?_
    show Steps p.tables e below (s₁.setTop (mkF m 15 #[.val (.int (8 : Int32))] [(.int (5 : Int32)), (.int (8 : Int32))])) _
    refine XS.icmpNo X0.here hx rfl (hb hby d2_15) rfl (by decide) ?_
    show Steps p.tables e below (s₁.setTop (mkF m 18 #[.val (.int (8 : Int32))] [])) _
    refine XS.iloadN X0.here hx rfl (hb hby d2_18) rfl ?_
    show Steps p.tables e below (s₁.setTop (mkF m 19 #[.val (.int (8 : Int32))] [(.int (8 : Int32))])) _
    refine XS.bipush X0.here hx rfl (hb hby d2_19) ?_
    show Steps p.tables e below (s₁.setTop (mkF m 21 #[.val (.int (8 : Int32))] [(.int (6 : Int32)), (.int (8 : Int32))])) _
    refine XS.icmpYes X0.here hx rfl (pc0 := 21) (pc' := 27) rfl (hb hby d2_21) rfl (by decide) (by decide) (by decide) ?_
    show Steps p.tables e below (s₁.setTop (mkF m 27 #[.val (.int (8 : Int32))] [])) _
    refine XS.iloadN X0.here hx rfl (hb hby d2_27) rfl ?_
    show Steps p.tables e below (s₁.setTop (mkF m 28 #[.val (.int (8 : Int32))] [(.int (8 : Int32))])) _
    refine XS.bipush X0.here hx rfl (hb hby d2_28) ?_
    show Steps p.tables e below (s₁.setTop (mkF m 30 #[.val (.int (8 : Int32))] [(.int (8 : Int32)), (.int (8 : Int32))])) _
    refine XS.icmpNo X0.here hx rfl (hb hby d2_30) rfl (by decide) ?_
    show Steps p.tables e below (s₁.setTop (mkF m 33 #[.val (.int (8 : Int32))] [])) _
    refine XS.sipush X0.here hx rfl (hb hby d2_33) ?_
    show Steps p.tables e below (s₁.setTop (mkF m 36 #[.val (.int (8 : Int32))] [(.int (180 : Int32))])) _
    exact retI X0 hx Bd.returns (hb hby d2_36) hr
  · show own_QP (some (.int (180 : Int32))) n0 h0 _ s₁.heap _
    rw [e0]
    exact ⟨rfl, N0, rfl⟩
set_option maxRecDepth 65536 in
set_option maxHeartbeats 40000000 in
theorem rm4_9 (l : Launch) (Z : State) (a0 : Array Value) (hw : ∀ d ∈ tables_1, d.before a0 Z = true) (r1 : Addr) (r2 : Addr) (h0 : Heap) (n0 : Nat) (O0 : Old Z n0 h0) (P1 : Fld Z h0 r1 "com/example/key_warden/keywarden/engine/LockMode" "intention" "Z" (.int (0 : Int32))) (P2 : Fld Z h0 r1 "com/example/key_warden/keywarden/engine/LockMode" "keyLock" "Z" (.int (0 : Int32))) (P3 : Fld Z h0 r2 "com/example/key_warden/keywarden/engine/LockMode" "keyLock" "Z" (.int (0 : Int32))) (P4 : Fld Z h0 r1 "com/example/key_warden/keywarden/engine/LockMode" "insertIntention" "Z" (.int (1 : Int32))) (P5 : Fld Z h0 r2 "com/example/key_warden/keywarden/engine/LockMode" "coversGap" "Z" (.int (1 : Int32))) (P6 : Fld Z h0 r2 "com/example/key_warden/keywarden/engine/LockMode" "insertIntention" "Z" (.int (0 : Int32))) :
    MetFree l (⟨"com/example/key_warden/keywarden/engine/LockMode", "conflictsWith", "(Lcom/example/key_warden/keywarden/engine/LockMode;)Z"⟩ : MethodName) (head1 [Jvm.Cond.code (⟨"com/example/key_warden/keywarden/engine/LockMode", "conflictsWith", "(Lcom/example/key_warden/keywarden/engine/LockMode;)Z"⟩ : MethodName) prog_26_method_6_code 3 (some .boolean)] ({ frames := 0, cells := 0, slots := 0, locals := 0 } : Room)) (fun a U => a = #[(.ref r1), (.ref r2)] ∧ Z.Warmed39 U.vm ∧ U.heap = h0) (fun _ _ _ _ _ => True) (fun _ U o U' => ∃ v L, o = .returned v ∧ own_QP (some (.int (1 : Int32))) n0 h0 v U'.heap L ∧ FrameEnd U o U' L ({ frames := 0, cells := 0, slots := 0, locals := 0 } : Room).cells ({ frames := 0, cells := 0, slots := 0, locals := 0 } : Room).slots) := by
  refine MetFree.of_bodySF (plainFor_of_name pn_9) hisR ?_
  intro p e s m args below meth c s₁ Bd hml0 hP hK
  obtain ⟨rfl, hZ, hh⟩ := hP
  have hx := Bd.exec
  have hby := Bd.bytes
  have hml : c.maxLocals = 3 := hml0
  have hown : s.vm.findClass "com/example/key_warden/keywarden/engine/LockMode" = some m.cls := findClass_of_methodNamed Bd.named
  have hnm := (name_of_methodNamed Bd.named Bd.method).1
  have X0 : Stand p l e ({ frames := 0, cells := 0, slots := 0, locals := 0 } : Room) s m #[(.ref r1), (.ref r2)] below meth c s₁ [] 0 0 := Stand.of_body Bd
  have e0 : s₁.heap = h0 := by rw [← hh, Bd.state]; rfl
  have N0 := Fr.nil n0
  have pre0 : ∀ t, Steps p.tables e below (s₁.setTop (mkF m 0 #[.val (.ref r1), .val (.ref r2), .unset] [])) t → Steps p.tables e below (s₁.setTop (entryFrame m #[(.ref r1), (.ref r2)] 3)) t := fun t k => castTop (ef_4_RR m r1 r2) k
  obtain ⟨T1, X1, e1, st1⟩ := getF X0 hx hZ hown (host := "") (Or.inl (hw _ (List.mem_of_getElem? (i := 21) rfl))) Via.refl e0 P1 (g := (mkF m 1 #[.val (.ref r1), .val (.ref r2), .unset] [(.ref r1)])) rfl rfl (hb hby d4_1)
  obtain ⟨T2, X2, e2, st2⟩ := getF X1 hx hZ hown (host := "") (Or.inl (hw _ (List.mem_of_getElem? (i := 23) rfl))) Via.refl e1 P2 (g := (mkF m 20 #[.val (.ref r1), .val (.ref r2), .unset] [(.ref r1)])) rfl rfl (hb hby d4_20)
  obtain ⟨T3, X3, e3, st3⟩ := getF X2 hx hZ hown (host := "") (Or.inl (hw _ (List.mem_of_getElem? (i := 23) rfl))) Via.refl e2 P3 (g := (mkF m 27 #[.val (.ref r1), .val (.ref r2), .unset] [(.ref r2)])) rfl rfl (hb hby d4_27)
  obtain ⟨T4, X4, e4, st4⟩ := getF X3 hx hZ hown (host := "") (Or.inl (hw _ (List.mem_of_getElem? (i := 25) rfl))) Via.refl e3 P4 (g := (mkF m 57 #[.val (.ref r1), .val (.ref r2), .unset] [(.ref r1)])) rfl rfl (hb hby d4_57)
  obtain ⟨T5, X5, e5, st5⟩ := getF X4 hx hZ hown (host := "") (Or.inl (hw _ (List.mem_of_getElem? (i := 47) rfl))) Via.refl e4 P5 (g := (mkF m 64 #[.val (.ref r1), .val (.ref r2), .unset] [(.ref r2)])) rfl rfl (hb hby d4_64)
  obtain ⟨T6, X6, e6, st6⟩ := getF X5 hx hZ hown (host := "") (Or.inl (hw _ (List.mem_of_getElem? (i := 25) rfl))) Via.refl e5 P6 (g := (mkF m 71 #[.val (.ref r1), .val (.ref r2), .unset] [(.ref r2)])) rfl rfl (hb hby d4_71)
  obtain ⟨fs, hr, hrun, hended, hW, hsame⟩ := X6.leave (v := (some (.int (1 : Int32)))) (fun h => by rw [Bd.returns] at h; cases h)
  refine ⟨_, _, pre0 _ ?_, hrun, hended, _, _, rfl, ?_, ⟨_, rfl⟩, hW, hsame.mono (by decide) (by decide)⟩
  · show Steps p.tables e below (s₁.setTop (mkF m 0 #[.val (.ref r1), .val (.ref r2), .unset] [])) _
    refine XS.aloadN X0.here hx rfl (hb hby d4_0) rfl rfl ?_
    show Steps p.tables e below (s₁.setTop (mkF m 1 #[.val (.ref r1), .val (.ref r2), .unset] [(.ref r1)])) _
    refine st1 _ ?_
    show Steps p.tables e below (T1.setTop (mkF m 4 #[.val (.ref r1), .val (.ref r2), .unset] [(.int (0 : Int32))])) _
    refine XS.ifYes X1.here hx rfl (pc0 := 4) (pc' := 19) rfl (hb hby d4_4) rfl (by decide) (by decide) (by decide) ?_
    show Steps p.tables e below (T1.setTop (mkF m 19 #[.val (.ref r1), .val (.ref r2), .unset] [])) _
    refine XS.aloadN X1.here hx rfl (hb hby d4_19) rfl rfl ?_
    show Steps p.tables e below (T1.setTop (mkF m 20 #[.val (.ref r1), .val (.ref r2), .unset] [(.ref r1)])) _
    refine st2 _ ?_
    show Steps p.tables e below (T2.setTop (mkF m 23 #[.val (.ref r1), .val (.ref r2), .unset] [(.int (0 : Int32))])) _
    refine XS.ifNo X2.here hx rfl (hb hby d4_23) rfl (by decide) ?_
    show Steps p.tables e below (T2.setTop (mkF m 26 #[.val (.ref r1), .val (.ref r2), .unset] [])) _
    refine XS.aloadN X2.here hx rfl (hb hby d4_26) rfl rfl ?_
    show Steps p.tables e below (T2.setTop (mkF m 27 #[.val (.ref r1), .val (.ref r2), .unset] [(.ref r2)])) _
    refine st3 _ ?_
    show Steps p.tables e below (T3.setTop (mkF m 30 #[.val (.ref r1), .val (.ref r2), .unset] [(.int (0 : Int32))])) _
    refine XS.ifYes X3.here hx rfl (pc0 := 30) (pc' := 56) rfl (hb hby d4_30) rfl (by decide) (by decide) (by decide) ?_
    show Steps p.tables e below (T3.setTop (mkF m 56 #[.val (.ref r1), .val (.ref r2), .unset] [])) _
    refine XS.aloadN X3.here hx rfl (hb hby d4_56) rfl rfl ?_
    show Steps p.tables e below (T3.setTop (mkF m 57 #[.val (.ref r1), .val (.ref r2), .unset] [(.ref r1)])) _
    refine st4 _ ?_
    show Steps p.tables e below (T4.setTop (mkF m 60 #[.val (.ref r1), .val (.ref r2), .unset] [(.int (1 : Int32))])) _
    refine XS.ifNo X4.here hx rfl (hb hby d4_60) rfl (by decide) ?_
    show Steps p.tables e below (T4.setTop (mkF m 63 #[.val (.ref r1), .val (.ref r2), .unset] [])) _
    refine XS.aloadN X4.here hx rfl (hb hby d4_63) rfl rfl ?_
    show Steps p.tables e below (T4.setTop (mkF m 64 #[.val (.ref r1), .val (.ref r2), .unset] [(.ref r2)])) _
    refine st5 _ ?_
    show Steps p.tables e below (T5.setTop (mkF m 67 #[.val (.ref r1), .val (.ref r2), .unset] [(.int (1 : Int32))])) _
    refine XS.ifNo X5.here hx rfl (hb hby d4_67) rfl (by decide) ?_
    show Steps p.tables e below (T5.setTop (mkF m 70 #[.val (.ref r1), .val (.ref r2), .unset] [])) _
    refine XS.aloadN X5.here hx rfl (hb hby d4_70) rfl rfl ?_
    show Steps p.tables e below (T5.setTop (mkF m 71 #[.val (.ref r1), .val (.ref r2), .unset] [(.ref r2)])) _
    refine st6 _ ?_
    show Steps p.tables e below (T6.setTop (mkF m 74 #[.val (.ref r1), .val (.ref r2), .unset] [(.int (0 : Int32))])) _
    refine XS.ifNo X6.here hx rfl (hb hby d4_74) rfl (by decide) ?_
    show Steps p.tables e below (T6.setTop (mkF m 77 #[.val (.ref r1), .val (.ref r2), .unset] [])) _
    refine XS.iconst X6.here hx rfl (hb hby d4_77) ?_
    show Steps p.tables e below (T6.setTop (mkF m 78 #[.val (.ref r1), .val (.ref r2), .unset] [(.int (1 : Int32))])) _
    refine XS.goto X6.here hx rfl (pc0 := 78) (pc' := 82) rfl (hb hby d4_78) (by decide) (by decide) ?_
    show Steps p.tables e below (T6.setTop (mkF m 82 #[.val (.ref r1), .val (.ref r2), .unset] [(.int (1 : Int32))])) _
    refine XS.istoreN X6.here hx rfl (hb hby d4_82) rfl (l' := #[.val (.ref r1), .val (.ref r2), .val (.int (1 : Int32))]) rfl ?_
    show Steps p.tables e below (T6.setTop (mkF m 83 #[.val (.ref r1), .val (.ref r2), .val (.int (1 : Int32))] [])) _
    refine XS.goto X6.here hx rfl (pc0 := 83) (pc' := 132) rfl (hb hby d4_83) (by decide) (by decide) ?_
    show Steps p.tables e below (T6.setTop (mkF m 132 #[.val (.ref r1), .val (.ref r2), .val (.int (1 : Int32))] [])) _
    refine XS.iloadN X6.here hx rfl (hb hby d4_132) rfl ?_
    show Steps p.tables e below (T6.setTop (mkF m 133 #[.val (.ref r1), .val (.ref r2), .val (.int (1 : Int32))] [(.int (1 : Int32))])) _
    exact retN X6 hx (t := .boolean) Bd.returns (by simp) (hb hby d4_133) hr
  · show own_QP (some (.int (1 : Int32))) n0 h0 _ T6.heap _
    rw [e6]
    exact ⟨rfl, N0, rfl⟩
set_option maxRecDepth 65536 in
set_option maxHeartbeats 40000000 in
theorem rm4_10 (l : Launch) (Z : State) (a0 : Array Value) (hw : ∀ d ∈ tables_1, d.before a0 Z = true) (r1 : Addr) (r2 : Addr) (h0 : Heap) (n0 : Nat) (O0 : Old Z n0 h0) (P1 : Fld Z h0 r1 "com/example/key_warden/keywarden/engine/LockMode" "intention" "Z" (.int (0 : Int32))) (P2 : Fld Z h0 r1 "com/example/key_warden/keywarden/engine/LockMode" "keyLock" "Z" (.int (0 : Int32))) (P3 : Fld Z h0 r2 "com/example/key_warden/keywarden/engine/LockMode" "keyLock" "Z" (.int (0 : Int32))) (P4 : Fld Z h0 r1 "com/example/key_warden/keywarden/engine/LockMode" "insertIntention" "Z" (.int (1 : Int32))) (P5 : Fld Z h0 r2 "com/example/key_warden/keywarden/engine/LockMode" "coversGap" "Z" (.int (0 : Int32))) :
    MetFree l (⟨"com/example/key_warden/keywarden/engine/LockMode", "conflictsWith", "(Lcom/example/key_warden/keywarden/engine/LockMode;)Z"⟩ : MethodName) (head1 [Jvm.Cond.code (⟨"com/example/key_warden/keywarden/engine/LockMode", "conflictsWith", "(Lcom/example/key_warden/keywarden/engine/LockMode;)Z"⟩ : MethodName) prog_26_method_6_code 3 (some .boolean)] ({ frames := 0, cells := 0, slots := 0, locals := 0 } : Room)) (fun a U => a = #[(.ref r1), (.ref r2)] ∧ Z.Warmed39 U.vm ∧ U.heap = h0) (fun _ _ _ _ _ => True) (fun _ U o U' => ∃ v L, o = .returned v ∧ own_QP (some (.int (0 : Int32))) n0 h0 v U'.heap L ∧ FrameEnd U o U' L ({ frames := 0, cells := 0, slots := 0, locals := 0 } : Room).cells ({ frames := 0, cells := 0, slots := 0, locals := 0 } : Room).slots) := by
  refine MetFree.of_bodySF (plainFor_of_name pn_9) hisR ?_
  intro p e s m args below meth c s₁ Bd hml0 hP hK
  obtain ⟨rfl, hZ, hh⟩ := hP
  have hx := Bd.exec
  have hby := Bd.bytes
  have hml : c.maxLocals = 3 := hml0
  have hown : s.vm.findClass "com/example/key_warden/keywarden/engine/LockMode" = some m.cls := findClass_of_methodNamed Bd.named
  have hnm := (name_of_methodNamed Bd.named Bd.method).1
  have X0 : Stand p l e ({ frames := 0, cells := 0, slots := 0, locals := 0 } : Room) s m #[(.ref r1), (.ref r2)] below meth c s₁ [] 0 0 := Stand.of_body Bd
  have e0 : s₁.heap = h0 := by rw [← hh, Bd.state]; rfl
  have N0 := Fr.nil n0
  have pre0 : ∀ t, Steps p.tables e below (s₁.setTop (mkF m 0 #[.val (.ref r1), .val (.ref r2), .unset] [])) t → Steps p.tables e below (s₁.setTop (entryFrame m #[(.ref r1), (.ref r2)] 3)) t := fun t k => castTop (ef_4_RR m r1 r2) k
  obtain ⟨T1, X1, e1, st1⟩ := getF X0 hx hZ hown (host := "") (Or.inl (hw _ (List.mem_of_getElem? (i := 21) rfl))) Via.refl e0 P1 (g := (mkF m 1 #[.val (.ref r1), .val (.ref r2), .unset] [(.ref r1)])) rfl rfl (hb hby d4_1)
  obtain ⟨T2, X2, e2, st2⟩ := getF X1 hx hZ hown (host := "") (Or.inl (hw _ (List.mem_of_getElem? (i := 23) rfl))) Via.refl e1 P2 (g := (mkF m 20 #[.val (.ref r1), .val (.ref r2), .unset] [(.ref r1)])) rfl rfl (hb hby d4_20)
  obtain ⟨T3, X3, e3, st3⟩ := getF X2 hx hZ hown (host := "") (Or.inl (hw _ (List.mem_of_getElem? (i := 23) rfl))) Via.refl e2 P3 (g := (mkF m 27 #[.val (.ref r1), .val (.ref r2), .unset] [(.ref r2)])) rfl rfl (hb hby d4_27)
  obtain ⟨T4, X4, e4, st4⟩ := getF X3 hx hZ hown (host := "") (Or.inl (hw _ (List.mem_of_getElem? (i := 25) rfl))) Via.refl e3 P4 (g := (mkF m 57 #[.val (.ref r1), .val (.ref r2), .unset] [(.ref r1)])) rfl rfl (hb hby d4_57)
  obtain ⟨T5, X5, e5, st5⟩ := getF X4 hx hZ hown (host := "") (Or.inl (hw _ (List.mem_of_getElem? (i := 47) rfl))) Via.refl e4 P5 (g := (mkF m 64 #[.val (.ref r1), .val (.ref r2), .unset] [(.ref r2)])) rfl rfl (hb hby d4_64)
  obtain ⟨fs, hr, hrun, hended, hW, hsame⟩ := X5.leave (v := (some (.int (0 : Int32)))) (fun h => by rw [Bd.returns] at h; cases h)
  refine ⟨_, _, pre0 _ ?_, hrun, hended, _, _, rfl, ?_, ⟨_, rfl⟩, hW, hsame.mono (by decide) (by decide)⟩
  · show Steps p.tables e below (s₁.setTop (mkF m 0 #[.val (.ref r1), .val (.ref r2), .unset] [])) _
    refine XS.aloadN X0.here hx rfl (hb hby d4_0) rfl rfl ?_
    show Steps p.tables e below (s₁.setTop (mkF m 1 #[.val (.ref r1), .val (.ref r2), .unset] [(.ref r1)])) _
    refine st1 _ ?_
    show Steps p.tables e below (T1.setTop (mkF m 4 #[.val (.ref r1), .val (.ref r2), .unset] [(.int (0 : Int32))])) _
    refine XS.ifYes X1.here hx rfl (pc0 := 4) (pc' := 19) rfl (hb hby d4_4) rfl (by decide) (by decide) (by decide) ?_
    show Steps p.tables e below (T1.setTop (mkF m 19 #[.val (.ref r1), .val (.ref r2), .unset] [])) _
    refine XS.aloadN X1.here hx rfl (hb hby d4_19) rfl rfl ?_
    show Steps p.tables e below (T1.setTop (mkF m 20 #[.val (.ref r1), .val (.ref r2), .unset] [(.ref r1)])) _
    refine st2 _ ?_
    show Steps p.tables e below (T2.setTop (mkF m 23 #[.val (.ref r1), .val (.ref r2), .unset] [(.int (0 : Int32))])) _
    refine XS.ifNo X2.here hx rfl (hb hby d4_23) rfl (by decide) ?_
    show Steps p.tables e below (T2.setTop (mkF m 26 #[.val (.ref r1), .val (.ref r2), .unset] [])) _
    refine XS.aloadN X2.here hx rfl (hb hby d4_26) rfl rfl ?_
    show Steps p.tables e below (T2.setTop (mkF m 27 #[.val (.ref r1), .val (.ref r2), .unset] [(.ref r2)])) _
    refine st3 _ ?_
    show Steps p.tables e below (T3.setTop (mkF m 30 #[.val (.ref r1), .val (.ref r2), .unset] [(.int (0 : Int32))])) _
    refine XS.ifYes X3.here hx rfl (pc0 := 30) (pc' := 56) rfl (hb hby d4_30) rfl (by decide) (by decide) (by decide) ?_
    show Steps p.tables e below (T3.setTop (mkF m 56 #[.val (.ref r1), .val (.ref r2), .unset] [])) _
    refine XS.aloadN X3.here hx rfl (hb hby d4_56) rfl rfl ?_
    show Steps p.tables e below (T3.setTop (mkF m 57 #[.val (.ref r1), .val (.ref r2), .unset] [(.ref r1)])) _
    refine st4 _ ?_
    show Steps p.tables e below (T4.setTop (mkF m 60 #[.val (.ref r1), .val (.ref r2), .unset] [(.int (1 : Int32))])) _
    refine XS.ifNo X4.here hx rfl (hb hby d4_60) rfl (by decide) ?_
    show Steps p.tables e below (T4.setTop (mkF m 63 #[.val (.ref r1), .val (.ref r2), .unset] [])) _
    refine XS.aloadN X4.here hx rfl (hb hby d4_63) rfl rfl ?_
    show Steps p.tables e below (T4.setTop (mkF m 64 #[.val (.ref r1), .val (.ref r2), .unset] [(.ref r2)])) _
    refine st5 _ ?_
    show Steps p.tables e below (T5.setTop (mkF m 67 #[.val (.ref r1), .val (.ref r2), .unset] [(.int (0 : Int32))])) _
    refine XS.ifYes X5.here hx rfl (pc0 := 67) (pc' := 81) rfl (hb hby d4_67) rfl (by decide) (by decide) (by decide) ?_
    show Steps p.tables e below (T5.setTop (mkF m 81 #[.val (.ref r1), .val (.ref r2), .unset] [])) _
    refine XS.iconst X5.here hx rfl (hb hby d4_81) ?_
    show Steps p.tables e below (T5.setTop (mkF m 82 #[.val (.ref r1), .val (.ref r2), .unset] [(.int (0 : Int32))])) _
    refine XS.istoreN X5.here hx rfl (hb hby d4_82) rfl (l' := #[.val (.ref r1), .val (.ref r2), .val (.int (0 : Int32))]) rfl ?_
    show Steps p.tables e below (T5.setTop (mkF m 83 #[.val (.ref r1), .val (.ref r2), .val (.int (0 : Int32))] [])) _
    refine XS.goto X5.here hx rfl (pc0 := 83) (pc' := 132) rfl (hb hby d4_83) (by decide) (by decide) ?_
    show Steps p.tables e below (T5.setTop (mkF m 132 #[.val (.ref r1), .val (.ref r2), .val (.int (0 : Int32))] [])) _
    refine XS.iloadN X5.here hx rfl (hb hby d4_132) rfl ?_
    show Steps p.tables e below (T5.setTop (mkF m 133 #[.val (.ref r1), .val (.ref r2), .val (.int (0 : Int32))] [(.int (0 : Int32))])) _
    exact retN X5 hx (t := .boolean) Bd.returns (by simp) (hb hby d4_133) hr
  · show own_QP (some (.int (0 : Int32))) n0 h0 _ T5.heap _
    rw [e5]
    exact ⟨rfl, N0, rfl⟩
set_option maxRecDepth 65536 in
set_option maxHeartbeats 40000000 in
theorem rm4_11 (l : Launch) (Z : State) (a0 : Array Value) (hw : ∀ d ∈ tables_1, d.before a0 Z = true) (r1 : Addr) (h0 : Heap) (n0 : Nat) (O0 : Old Z n0 h0) (P1 : Fld Z h0 r1 "com/example/key_warden/keywarden/engine/LockMode" "intention" "Z" (.int (0 : Int32))) (P2 : Fld Z h0 r1 "com/example/key_warden/keywarden/engine/LockMode" "keyLock" "Z" (.int (0 : Int32))) (P3 : Fld Z h0 r1 "com/example/key_warden/keywarden/engine/LockMode" "insertIntention" "Z" (.int (1 : Int32))) (P4 : Fld Z h0 r1 "com/example/key_warden/keywarden/engine/LockMode" "coversGap" "Z" (.int (1 : Int32))) :
    MetFree l (⟨"com/example/key_warden/keywarden/engine/LockMode", "conflictsWith", "(Lcom/example/key_warden/keywarden/engine/LockMode;)Z"⟩ : MethodName) (head1 [Jvm.Cond.code (⟨"com/example/key_warden/keywarden/engine/LockMode", "conflictsWith", "(Lcom/example/key_warden/keywarden/engine/LockMode;)Z"⟩ : MethodName) prog_26_method_6_code 3 (some .boolean)] ({ frames := 0, cells := 0, slots := 0, locals := 0 } : Room)) (fun a U => a = #[(.ref r1), (.ref r1)] ∧ Z.Warmed39 U.vm ∧ U.heap = h0) (fun _ _ _ _ _ => True) (fun _ U o U' => ∃ v L, o = .returned v ∧ own_QP (some (.int (0 : Int32))) n0 h0 v U'.heap L ∧ FrameEnd U o U' L ({ frames := 0, cells := 0, slots := 0, locals := 0 } : Room).cells ({ frames := 0, cells := 0, slots := 0, locals := 0 } : Room).slots) := by
  refine MetFree.of_bodySF (plainFor_of_name pn_9) hisR ?_
  intro p e s m args below meth c s₁ Bd hml0 hP hK
  obtain ⟨rfl, hZ, hh⟩ := hP
  have hx := Bd.exec
  have hby := Bd.bytes
  have hml : c.maxLocals = 3 := hml0
  have hown : s.vm.findClass "com/example/key_warden/keywarden/engine/LockMode" = some m.cls := findClass_of_methodNamed Bd.named
  have hnm := (name_of_methodNamed Bd.named Bd.method).1
  have X0 : Stand p l e ({ frames := 0, cells := 0, slots := 0, locals := 0 } : Room) s m #[(.ref r1), (.ref r1)] below meth c s₁ [] 0 0 := Stand.of_body Bd
  have e0 : s₁.heap = h0 := by rw [← hh, Bd.state]; rfl
  have N0 := Fr.nil n0
  have pre0 : ∀ t, Steps p.tables e below (s₁.setTop (mkF m 0 #[.val (.ref r1), .val (.ref r1), .unset] [])) t → Steps p.tables e below (s₁.setTop (entryFrame m #[(.ref r1), (.ref r1)] 3)) t := fun t k => castTop (ef_4_RR m r1 r1) k
  obtain ⟨T1, X1, e1, st1⟩ := getF X0 hx hZ hown (host := "") (Or.inl (hw _ (List.mem_of_getElem? (i := 21) rfl))) Via.refl e0 P1 (g := (mkF m 1 #[.val (.ref r1), .val (.ref r1), .unset] [(.ref r1)])) rfl rfl (hb hby d4_1)
  obtain ⟨T2, X2, e2, st2⟩ := getF X1 hx hZ hown (host := "") (Or.inl (hw _ (List.mem_of_getElem? (i := 23) rfl))) Via.refl e1 P2 (g := (mkF m 20 #[.val (.ref r1), .val (.ref r1), .unset] [(.ref r1)])) rfl rfl (hb hby d4_20)
  obtain ⟨T3, X3, e3, st3⟩ := getF X2 hx hZ hown (host := "") (Or.inl (hw _ (List.mem_of_getElem? (i := 23) rfl))) Via.refl e2 P2 (g := (mkF m 27 #[.val (.ref r1), .val (.ref r1), .unset] [(.ref r1)])) rfl rfl (hb hby d4_27)
  obtain ⟨T4, X4, e4, st4⟩ := getF X3 hx hZ hown (host := "") (Or.inl (hw _ (List.mem_of_getElem? (i := 25) rfl))) Via.refl e3 P3 (g := (mkF m 57 #[.val (.ref r1), .val (.ref r1), .unset] [(.ref r1)])) rfl rfl (hb hby d4_57)
  obtain ⟨T5, X5, e5, st5⟩ := getF X4 hx hZ hown (host := "") (Or.inl (hw _ (List.mem_of_getElem? (i := 47) rfl))) Via.refl e4 P4 (g := (mkF m 64 #[.val (.ref r1), .val (.ref r1), .unset] [(.ref r1)])) rfl rfl (hb hby d4_64)
  obtain ⟨T6, X6, e6, st6⟩ := getF X5 hx hZ hown (host := "") (Or.inl (hw _ (List.mem_of_getElem? (i := 25) rfl))) Via.refl e5 P3 (g := (mkF m 71 #[.val (.ref r1), .val (.ref r1), .unset] [(.ref r1)])) rfl rfl (hb hby d4_71)
  obtain ⟨fs, hr, hrun, hended, hW, hsame⟩ := X6.leave (v := (some (.int (0 : Int32)))) (fun h => by rw [Bd.returns] at h; cases h)
  refine ⟨_, _, pre0 _ ?_, hrun, hended, _, _, rfl, ?_, ⟨_, rfl⟩, hW, hsame.mono (by decide) (by decide)⟩
  · show Steps p.tables e below (s₁.setTop (mkF m 0 #[.val (.ref r1), .val (.ref r1), .unset] [])) _
    refine XS.aloadN X0.here hx rfl (hb hby d4_0) rfl rfl ?_
    show Steps p.tables e below (s₁.setTop (mkF m 1 #[.val (.ref r1), .val (.ref r1), .unset] [(.ref r1)])) _
    refine st1 _ ?_
    show Steps p.tables e below (T1.setTop (mkF m 4 #[.val (.ref r1), .val (.ref r1), .unset] [(.int (0 : Int32))])) _
    refine XS.ifYes X1.here hx rfl (pc0 := 4) (pc' := 19) rfl (hb hby d4_4) rfl (by decide) (by decide) (by decide) ?_
    show Steps p.tables e below (T1.setTop (mkF m 19 #[.val (.ref r1), .val (.ref r1), .unset] [])) _
    refine XS.aloadN X1.here hx rfl (hb hby d4_19) rfl rfl ?_
    show Steps p.tables e below (T1.setTop (mkF m 20 #[.val (.ref r1), .val (.ref r1), .unset] [(.ref r1)])) _
    refine st2 _ ?_
    show Steps p.tables e below (T2.setTop (mkF m 23 #[.val (.ref r1), .val (.ref r1), .unset] [(.int (0 : Int32))])) _
    refine XS.ifNo X2.here hx rfl (hb hby d4_23) rfl (by decide) ?_
    show Steps p.tables e below (T2.setTop (mkF m 26 #[.val (.ref r1), .val (.ref r1), .unset] [])) _
    refine XS.aloadN X2.here hx rfl (hb hby d4_26) rfl rfl ?_
    show Steps p.tables e below (T2.setTop (mkF m 27 #[.val (.ref r1), .val (.ref r1), .unset] [(.ref r1)])) _
    refine st3 _ ?_
    show Steps p.tables e below (T3.setTop (mkF m 30 #[.val (.ref r1), .val (.ref r1), .unset] [(.int (0 : Int32))])) _
    refine XS.ifYes X3.here hx rfl (pc0 := 30) (pc' := 56) rfl (hb hby d4_30) rfl (by decide) (by decide) (by decide) ?_
    show Steps p.tables e below (T3.setTop (mkF m 56 #[.val (.ref r1), .val (.ref r1), .unset] [])) _
    refine XS.aloadN X3.here hx rfl (hb hby d4_56) rfl rfl ?_
    show Steps p.tables e below (T3.setTop (mkF m 57 #[.val (.ref r1), .val (.ref r1), .unset] [(.ref r1)])) _
    refine st4 _ ?_
    show Steps p.tables e below (T4.setTop (mkF m 60 #[.val (.ref r1), .val (.ref r1), .unset] [(.int (1 : Int32))])) _
    refine XS.ifNo X4.here hx rfl (hb hby d4_60) rfl (by decide) ?_
    show Steps p.tables e below (T4.setTop (mkF m 63 #[.val (.ref r1), .val (.ref r1), .unset] [])) _
    refine XS.aloadN X4.here hx rfl (hb hby d4_63) rfl rfl ?_
    show Steps p.tables e below (T4.setTop (mkF m 64 #[.val (.ref r1), .val (.ref r1), .unset] [(.ref r1)])) _
    refine st5 _ ?_
    show Steps p.tables e below (T5.setTop (mkF m 67 #[.val (.ref r1), .val (.ref r1), .unset] [(.int (1 : Int32))])) _
    refine XS.ifNo X5.here hx rfl (hb hby d4_67) rfl (by decide) ?_
    show Steps p.tables e below (T5.setTop (mkF m 70 #[.val (.ref r1), .val (.ref r1), .unset] [])) _
    refine XS.aloadN X5.here hx rfl (hb hby d4_70) rfl rfl ?_
    show Steps p.tables e below (T5.setTop (mkF m 71 #[.val (.ref r1), .val (.ref r1), .unset] [(.ref r1)])) _
    refine st6 _ ?_
    show Steps p.tables e below (T6.setTop (mkF m 74 #[.val (.ref r1), .val (.ref r1), .unset] [(.int (1 : Int32))])) _
    refine XS.ifYes X6.here hx rfl (pc0 := 74) (pc' := 81) rfl (hb hby d4_74) rfl (by decide) (by decide) (by decide) ?_
    show Steps p.tables e below (T6.setTop (mkF m 81 #[.val (.ref r1), .val (.ref r1), .unset] [])) _
    refine XS.iconst X6.here hx rfl (hb hby d4_81) ?_
    show Steps p.tables e below (T6.setTop (mkF m 82 #[.val (.ref r1), .val (.ref r1), .unset] [(.int (0 : Int32))])) _
    refine XS.istoreN X6.here hx rfl (hb hby d4_82) rfl (l' := #[.val (.ref r1), .val (.ref r1), .val (.int (0 : Int32))]) rfl ?_
    show Steps p.tables e below (T6.setTop (mkF m 83 #[.val (.ref r1), .val (.ref r1), .val (.int (0 : Int32))] [])) _
    refine XS.goto X6.here hx rfl (pc0 := 83) (pc' := 132) rfl (hb hby d4_83) (by decide) (by decide) ?_
    show Steps p.tables e below (T6.setTop (mkF m 132 #[.val (.ref r1), .val (.ref r1), .val (.int (0 : Int32))] [])) _
    refine XS.iloadN X6.here hx rfl (hb hby d4_132) rfl ?_
    show Steps p.tables e below (T6.setTop (mkF m 133 #[.val (.ref r1), .val (.ref r1), .val (.int (0 : Int32))] [(.int (0 : Int32))])) _
    exact retN X6 hx (t := .boolean) Bd.returns (by simp) (hb hby d4_133) hr
  · show own_QP (some (.int (0 : Int32))) n0 h0 _ T6.heap _
    rw [e6]
    exact ⟨rfl, N0, rfl⟩
set_option maxRecDepth 65536 in
set_option maxHeartbeats 40000000 in
theorem rm1_7 (l : Launch) (Z : State) (a0 : Array Value) (hw : ∀ d ∈ tables_1, d.before a0 Z = true) (p1 : Int32) (h0 : Heap) (n0 : Nat) (O0 : Old Z n0 h0) (P1 : ((p1 &&& (2147483647 : Int32)) % (3 : Int32)) = (0 : Int32)) :
    MetFree l (⟨"com/example/key_warden/keywarden/engine/LockModeConflictsWithPinLaw", "pick", "(II)I"⟩ : MethodName) (head1 [Jvm.Cond.code (⟨"com/example/key_warden/keywarden/engine/LockModeConflictsWithPinLaw", "pick", "(II)I"⟩ : MethodName) method_2_code 4 (some .int)] ({ frames := 0, cells := 0, slots := 0, locals := 0 } : Room)) (fun a U => a = #[(.int (1 : Int32)), (.int p1)] ∧ Z.Warmed39 U.vm ∧ U.heap = h0) (fun _ _ _ _ _ => True) (fun _ U o U' => ∃ v L, o = .returned v ∧ own_QP (some (.int (0 : Int32))) n0 h0 v U'.heap L ∧ FrameEnd U o U' L ({ frames := 0, cells := 0, slots := 0, locals := 0 } : Room).cells ({ frames := 0, cells := 0, slots := 0, locals := 0 } : Room).slots) := by
  refine MetFree.of_bodySF (plainFor_of_name pn_4) hisR ?_
  intro p e s m args below meth c s₁ Bd hml0 hP hK
  obtain ⟨rfl, hZ, hh⟩ := hP
  have hx := Bd.exec
  have hby := Bd.bytes
  have hml : c.maxLocals = 4 := hml0
  have hown : s.vm.findClass "com/example/key_warden/keywarden/engine/LockModeConflictsWithPinLaw" = some m.cls := findClass_of_methodNamed Bd.named
  have hnm := (name_of_methodNamed Bd.named Bd.method).1
  have X0 : Stand p l e ({ frames := 0, cells := 0, slots := 0, locals := 0 } : Room) s m #[(.int (1 : Int32)), (.int p1)] below meth c s₁ [] 0 0 := Stand.of_body Bd
  have e0 : s₁.heap = h0 := by rw [← hh, Bd.state]; rfl
  have N0 := Fr.nil n0
  have pre0 : ∀ t, Steps p.tables e below (s₁.setTop (mkF m 0 #[.val (.int (1 : Int32)), .val (.int p1), .unset, .unset] [])) t → Steps p.tables e below (s₁.setTop (entryFrame m #[(.int (1 : Int32)), (.int p1)] 4)) t := fun t k => castTop (ef_1_II m (1 : Int32) p1) k
  obtain ⟨fs, hr, hrun, hended, hW, hsame⟩ := X0.leave (v := (some (.int (0 : Int32)))) (fun h => by rw [Bd.returns] at h; cases h)
  refine ⟨_, _, pre0 _ ?_, hrun, hended, _, _, rfl, ?_, ⟨_, rfl⟩, hW, hsame.mono (by decide) (by decide)⟩
  · show Steps p.tables e below (s₁.setTop (mkF m 0 #[.val (.int (1 : Int32)), .val (.int p1), .unset, .unset] [])) _
    refine XS.iloadN X0.here hx rfl (hb hby d1_0) rfl ?_
    show Steps p.tables e below (s₁.setTop (mkF m 1 #[.val (.int (1 : Int32)), .val (.int p1), .unset, .unset] [(.int p1)])) _
    refine X0.ldcInt hx hown (mvT hZ (hw _ (List.mem_of_getElem? (i := 4) rfl))) (g := (mkF m 1 #[.val (.int (1 : Int32)), .val (.int p1), .unset, .unset] [(.int p1)])) rfl (hb hby d1_1) _ ?_
    show Steps p.tables e below (s₁.setTop (mkF m 3 #[.val (.int (1 : Int32)), .val (.int p1), .unset, .unset] [(.int (2147483647 : Int32)), (.int p1)])) _
    refine XS.iand X0.here hx rfl (hb hby d1_3) rfl ?_
    show Steps p.tables e below (s₁.setTop (mkF m 4 #[.val (.int (1 : Int32)), .val (.int p1), .unset, .unset] [(.int (p1 &&& (2147483647 : Int32)))])) _
    refine XS.istoreN X0.here hx rfl (hb hby d1_4) rfl (l' := #[.val (.int (1 : Int32)), .val (.int p1), .val (.int (p1 &&& (2147483647 : Int32))), .unset]) rfl ?_
    show Steps p.tables e below (s₁.setTop (mkF m 5 #[.val (.int (1 : Int32)), .val (.int p1), .val (.int (p1 &&& (2147483647 : Int32))), .unset] [])) _
    refine XS.iloadN X0.here hx rfl (hb hby d1_5) rfl ?_
    show Steps p.tables e below (s₁.setTop (mkF m 6 #[.val (.int (1 : Int32)), .val (.int p1), .val (.int (p1 &&& (2147483647 : Int32))), .unset] [(.int (1 : Int32))])) _
    refine XS.ifNo X0.here hx rfl (hb hby d1_6) rfl (by decide) ?_
    show Steps p.tables e below (s₁.setTop (mkF m 9 #[.val (.int (1 : Int32)), .val (.int p1), .val (.int (p1 &&& (2147483647 : Int32))), .unset] [])) _
    refine XS.iloadN X0.here hx rfl (hb hby d1_9) rfl ?_
    show Steps p.tables e below (s₁.setTop (mkF m 10 #[.val (.int (1 : Int32)), .val (.int p1), .val (.int (p1 &&& (2147483647 : Int32))), .unset] [(.int (p1 &&& (2147483647 : Int32)))])) _
    refine XS.iconst X0.here hx rfl (hb hby d1_10) ?_
    show Steps p.tables e below (s₁.setTop (mkF m 11 #[.val (.int (1 : Int32)), .val (.int p1), .val (.int (p1 &&& (2147483647 : Int32))), .unset] [(.int (3 : Int32)), (.int (p1 &&& (2147483647 : Int32)))])) _
    refine iremM (g := (mkF m 11 #[.val (.int (1 : Int32)), .val (.int p1), .val (.int (p1 &&& (2147483647 : Int32))), .unset] [(.int (3 : Int32)), (.int (p1 &&& (2147483647 : Int32)))])) X0 hx rfl (hb hby d1_11) rfl (by decide) ?_
    show Steps p.tables e below (s₁.setTop (mkF m 12 #[.val (.int (1 : Int32)), .val (.int p1), .val (.int (p1 &&& (2147483647 : Int32))), .unset] [(.int ((p1 &&& (2147483647 : Int32)) % (3 : Int32)))])) _
    rw [P1]
    show Steps p.tables e below (s₁.setTop (mkF m 12 #[.val (.int (1 : Int32)), .val (.int p1), .val (.int (p1 &&& (2147483647 : Int32))), .unset] [(.int (0 : Int32))])) _
    refine XS.istoreN X0.here hx rfl (hb hby d1_12) rfl (l' := #[.val (.int (1 : Int32)), .val (.int p1), .val (.int (p1 &&& (2147483647 : Int32))), .val (.int (0 : Int32))]) rfl ?_
    show Steps p.tables e below (s₁.setTop (mkF m 13 #[.val (.int (1 : Int32)), .val (.int p1), .val (.int (p1 &&& (2147483647 : Int32))), .val (.int (0 : Int32))] [])) _
    refine XS.iloadN X0.here hx rfl (hb hby d1_13) rfl ?_
    show Steps p.tables e below (s₁.setTop (mkF m 14 #[.val (.int (1 : Int32)), .val (.int p1), .val (.int (p1 &&& (2147483647 : Int32))), .val (.int (0 : Int32))] [(.int (0 : Int32))])) _
    refine XS.iconst X0.here hx rfl (hb hby d1_14) ?_
    show Steps p.tables e below (s₁.setTop (mkF m 15 #[.val (.int (1 : Int32)), .val (.int p1), .val (.int (p1 &&& (2147483647 : Int32))), .val (.int (0 : Int32))] [(.int (2 : Int32)), (.int (0 : Int32))])) _
    refine XS.icmpYes X0.here hx rfl (pc0 := 15) (pc' := 21) rfl (hb hby d1_15) rfl (by decide) (by decide) (by decide) ?_
    show Steps p.tables e below (s₁.setTop (mkF m 21 #[.val (.int (1 : Int32)), .val (.int p1), .val (.int (p1 &&& (2147483647 : Int32))), .val (.int (0 : Int32))] [])) _
    refine XS.iloadN X0.here hx rfl (hb hby d1_21) rfl ?_
    show Steps p.tables e below (s₁.setTop (mkF m 22 #[.val (.int (1 : Int32)), .val (.int p1), .val (.int (p1 &&& (2147483647 : Int32))), .val (.int (0 : Int32))] [(.int (0 : Int32))])) _
    exact retI X0 hx Bd.returns (hb hby d1_22) hr
  · show own_QP (some (.int (0 : Int32))) n0 h0 _ s₁.heap _
    rw [e0]
    exact ⟨rfl, N0, rfl⟩
set_option maxRecDepth 65536 in
set_option maxHeartbeats 40000000 in
theorem rm2_7 (l : Launch) (Z : State) (a0 : Array Value) (hw : ∀ d ∈ tables_1, d.before a0 Z = true)  (h0 : Heap) (n0 : Nat) (O0 : Old Z n0 h0)  :
    MetFree l (⟨"com/example/key_warden/keywarden/engine/LockModeConflictsWithPinLaw", "row", "(I)I"⟩ : MethodName) (head1 [Jvm.Cond.code (⟨"com/example/key_warden/keywarden/engine/LockModeConflictsWithPinLaw", "row", "(I)I"⟩ : MethodName) method_4_code 1 (some .int)] ({ frames := 0, cells := 0, slots := 0, locals := 0 } : Room)) (fun a U => a = #[(.int (0 : Int32))] ∧ Z.Warmed39 U.vm ∧ U.heap = h0) (fun _ _ _ _ _ => True) (fun _ U o U' => ∃ v L, o = .returned v ∧ own_QP (some (.int (0 : Int32))) n0 h0 v U'.heap L ∧ FrameEnd U o U' L ({ frames := 0, cells := 0, slots := 0, locals := 0 } : Room).cells ({ frames := 0, cells := 0, slots := 0, locals := 0 } : Room).slots) := by
  refine MetFree.of_bodySF (plainFor_of_name pn_4) hisR ?_
  intro p e s m args below meth c s₁ Bd hml0 hP hK
  obtain ⟨rfl, hZ, hh⟩ := hP
  have hx := Bd.exec
  have hby := Bd.bytes
  have hml : c.maxLocals = 1 := hml0
  have hown : s.vm.findClass "com/example/key_warden/keywarden/engine/LockModeConflictsWithPinLaw" = some m.cls := findClass_of_methodNamed Bd.named
  have hnm := (name_of_methodNamed Bd.named Bd.method).1
  have X0 : Stand p l e ({ frames := 0, cells := 0, slots := 0, locals := 0 } : Room) s m #[(.int (0 : Int32))] below meth c s₁ [] 0 0 := Stand.of_body Bd
  have e0 : s₁.heap = h0 := by rw [← hh, Bd.state]; rfl
  have N0 := Fr.nil n0
  have pre0 : ∀ t, Steps p.tables e below (s₁.setTop (mkF m 0 #[.val (.int (0 : Int32))] [])) t → Steps p.tables e below (s₁.setTop (entryFrame m #[(.int (0 : Int32))] 1)) t := fun t k => castTop (ef_2_I m (0 : Int32)) k
  obtain ⟨fs, hr, hrun, hended, hW, hsame⟩ := X0.leave (v := (some (.int (0 : Int32)))) (fun h => by rw [Bd.returns] at h; cases h)
  refine ⟨_, _, pre0 _ ?_, hrun, hended, _, _, rfl, ?_, ⟨_, rfl⟩, hW, hsame.mono (by decide) (by decide)⟩
  · show Steps p.tables e below (s₁.setTop (mkF m 0 #[.val (.int (0 : Int32))] [])) _
    refine XS.iloadN X0.here hx rfl (hb hby d2_0) rfl ?_
    show Steps p.tables e below (s₁.setTop (mkF m 1 #[.val (.int (0 : Int32))] [(.int (0 : Int32))])) _
    refine XS.iconst X0.here hx rfl (hb hby d2_1) ?_
    show Steps p.tables e below (s₁.setTop (mkF m 2 #[.val (.int (0 : Int32))] [(.int (2 : Int32)), (.int (0 : Int32))])) _
    refine XS.icmpNo X0.here hx rfl (hb hby d2_2) rfl (by decide) ?_
    show Steps p.tables e below (s₁.setTop (mkF m 5 #[.val (.int (0 : Int32))] [])) _
    refine XS.iloadN X0.here hx rfl (hb hby d2_5) rfl ?_
    show Steps p.tables e below (s₁.setTop (mkF m 6 #[.val (.int (0 : Int32))] [(.int (0 : Int32))])) _
    refine XS.iconst X0.here hx rfl (hb hby d2_6) ?_
    show Steps p.tables e below (s₁.setTop (mkF m 7 #[.val (.int (0 : Int32))] [(.int (3 : Int32)), (.int (0 : Int32))])) _
    refine XS.icmpYes X0.here hx rfl (pc0 := 7) (pc' := 13) rfl (hb hby d2_7) rfl (by decide) (by decide) (by decide) ?_
    show Steps p.tables e below (s₁.setTop (mkF m 13 #[.val (.int (0 : Int32))] [])) _
    refine XS.iloadN X0.here hx rfl (hb hby d2_13) rfl ?_
    show Steps p.tables e below (s₁.setTop (mkF m 14 #[.val (.int (0 : Int32))] [(.int (0 : Int32))])) _
    refine XS.iconst X0.here hx rfl (hb hby d2_14) ?_
    show Steps p.tables e below (s₁.setTop (mkF m 15 #[.val (.int (0 : Int32))] [(.int (5 : Int32)), (.int (0 : Int32))])) _
    refine XS.icmpNo X0.here hx rfl (hb hby d2_15) rfl (by decide) ?_
    show Steps p.tables e below (s₁.setTop (mkF m 18 #[.val (.int (0 : Int32))] [])) _
    refine XS.iloadN X0.here hx rfl (hb hby d2_18) rfl ?_
    show Steps p.tables e below (s₁.setTop (mkF m 19 #[.val (.int (0 : Int32))] [(.int (0 : Int32))])) _
    refine XS.bipush X0.here hx rfl (hb hby d2_19) ?_
    show Steps p.tables e below (s₁.setTop (mkF m 21 #[.val (.int (0 : Int32))] [(.int (6 : Int32)), (.int (0 : Int32))])) _
    refine XS.icmpYes X0.here hx rfl (pc0 := 21) (pc' := 27) rfl (hb hby d2_21) rfl (by decide) (by decide) (by decide) ?_
    show Steps p.tables e below (s₁.setTop (mkF m 27 #[.val (.int (0 : Int32))] [])) _
    refine XS.iloadN X0.here hx rfl (hb hby d2_27) rfl ?_
    show Steps p.tables e below (s₁.setTop (mkF m 28 #[.val (.int (0 : Int32))] [(.int (0 : Int32))])) _
    refine XS.bipush X0.here hx rfl (hb hby d2_28) ?_
    show Steps p.tables e below (s₁.setTop (mkF m 30 #[.val (.int (0 : Int32))] [(.int (8 : Int32)), (.int (0 : Int32))])) _
    refine XS.icmpYes X0.here hx rfl (pc0 := 30) (pc' := 37) rfl (hb hby d2_30) rfl (by decide) (by decide) (by decide) ?_
    show Steps p.tables e below (s₁.setTop (mkF m 37 #[.val (.int (0 : Int32))] [])) _
    refine XS.iloadN X0.here hx rfl (hb hby d2_37) rfl ?_
    show Steps p.tables e below (s₁.setTop (mkF m 38 #[.val (.int (0 : Int32))] [(.int (0 : Int32))])) _
    refine XS.bipush X0.here hx rfl (hb hby d2_38) ?_
    show Steps p.tables e below (s₁.setTop (mkF m 40 #[.val (.int (0 : Int32))] [(.int (9 : Int32)), (.int (0 : Int32))])) _
    refine XS.icmpYes X0.here hx rfl (pc0 := 40) (pc' := 47) rfl (hb hby d2_40) rfl (by decide) (by decide) (by decide) ?_
    show Steps p.tables e below (s₁.setTop (mkF m 47 #[.val (.int (0 : Int32))] [])) _
    refine XS.iconst X0.here hx rfl (hb hby d2_47) ?_
    show Steps p.tables e below (s₁.setTop (mkF m 48 #[.val (.int (0 : Int32))] [(.int (0 : Int32))])) _
    exact retI X0 hx Bd.returns (hb hby d2_48) hr
  · show own_QP (some (.int (0 : Int32))) n0 h0 _ s₁.heap _
    rw [e0]
    exact ⟨rfl, N0, rfl⟩
set_option maxRecDepth 65536 in
set_option maxHeartbeats 40000000 in
theorem rm3_7 (l : Launch) (Z : State) (a0 : Array Value) (hw : ∀ d ∈ tables_1, d.before a0 Z = true) (w_IX : Addr) (h0 : Heap) (n0 : Nat) (O0 : Old Z n0 h0) (P1 : Sta Z Z.heap "com/example/key_warden/keywarden/engine/LockMode" "IX" "Lcom/example/key_warden/keywarden/engine/LockMode;" (.ref w_IX)) :
    MetFree l (⟨"com/example/key_warden/keywarden/engine/LockModeConflictsWithPinLaw", "mode", "(I)Lcom/example/key_warden/keywarden/engine/LockMode;"⟩ : MethodName) (head1 [Jvm.Cond.code (⟨"com/example/key_warden/keywarden/engine/LockModeConflictsWithPinLaw", "mode", "(I)Lcom/example/key_warden/keywarden/engine/LockMode;"⟩ : MethodName) method_3_code 1 (some (.object "com/example/key_warden/keywarden/engine/LockMode"))] ({ frames := 0, cells := 0, slots := 0, locals := 0 } : Room)) (fun a U => a = #[(.int (0 : Int32))] ∧ Z.Warmed39 U.vm ∧ U.heap = h0) (fun _ _ _ _ _ => True) (fun _ U o U' => ∃ v L, o = .returned v ∧ own_QP (some (.ref w_IX)) n0 h0 v U'.heap L ∧ FrameEnd U o U' L ({ frames := 0, cells := 0, slots := 0, locals := 0 } : Room).cells ({ frames := 0, cells := 0, slots := 0, locals := 0 } : Room).slots) := by
  refine MetFree.of_bodySF (plainFor_of_name pn_4) hisR ?_
  intro p e s m args below meth c s₁ Bd hml0 hP hK
  obtain ⟨rfl, hZ, hh⟩ := hP
  have hx := Bd.exec
  have hby := Bd.bytes
  have hml : c.maxLocals = 1 := hml0
  have hown : s.vm.findClass "com/example/key_warden/keywarden/engine/LockModeConflictsWithPinLaw" = some m.cls := findClass_of_methodNamed Bd.named
  have hnm := (name_of_methodNamed Bd.named Bd.method).1
  have X0 : Stand p l e ({ frames := 0, cells := 0, slots := 0, locals := 0 } : Room) s m #[(.int (0 : Int32))] below meth c s₁ [] 0 0 := Stand.of_body Bd
  have e0 : s₁.heap = h0 := by rw [← hh, Bd.state]; rfl
  have N0 := Fr.nil n0
  have pre0 : ∀ t, Steps p.tables e below (s₁.setTop (mkF m 0 #[.val (.int (0 : Int32))] [])) t → Steps p.tables e below (s₁.setTop (entryFrame m #[(.int (0 : Int32))] 1)) t := fun t k => castTop (ef_3_I m (0 : Int32)) k
  obtain ⟨T1, X1, e1, st1⟩ := getS2 X0 hx hZ hown (host := "") (Or.inl (hw _ (List.mem_of_getElem? (i := 33) rfl))) Via.refl e0 (P1.ext O0.2) (g := (mkF m 4 #[.val (.int (0 : Int32))] [])) rfl (hb hby d3_4)
  obtain ⟨fs, hr, hrun, hended, hW, hsame⟩ := X1.leave (v := (some (.ref w_IX))) (fun h => by rw [Bd.returns] at h; cases h)
  refine ⟨_, _, pre0 _ ?_, hrun, hended, _, _, rfl, ?_, ⟨_, rfl⟩, hW, hsame.mono (by decide) (by decide)⟩
  · show Steps p.tables e below (s₁.setTop (mkF m 0 #[.val (.int (0 : Int32))] [])) _
    refine XS.iloadN X0.here hx rfl (hb hby d3_0) rfl ?_
    show Steps p.tables e below (s₁.setTop (mkF m 1 #[.val (.int (0 : Int32))] [(.int (0 : Int32))])) _
    refine XS.ifNo X0.here hx rfl (hb hby d3_1) rfl (by decide) ?_
    show Steps p.tables e below (s₁.setTop (mkF m 4 #[.val (.int (0 : Int32))] [])) _
    refine st1 _ ?_
    show Steps p.tables e below (T1.setTop (mkF m 7 #[.val (.int (0 : Int32))] [(.ref w_IX)])) _
    exact retA X1 hx Bd.returns rfl rfl rfl (hb hby d3_7) hr
  · show own_QP (some (.ref w_IX)) n0 h0 _ T1.heap _
    rw [e1]
    exact ⟨rfl, N0, rfl⟩
set_option maxRecDepth 65536 in
set_option maxHeartbeats 40000000 in
theorem rm4_12 (l : Launch) (Z : State) (a0 : Array Value) (hw : ∀ d ∈ tables_1, d.before a0 Z = true) (r1 : Addr) (h0 : Heap) (n0 : Nat) (O0 : Old Z n0 h0) (P1 : Fld Z h0 r1 "com/example/key_warden/keywarden/engine/LockMode" "intention" "Z" (.int (1 : Int32))) :
    MetFree l (⟨"com/example/key_warden/keywarden/engine/LockMode", "conflictsWith", "(Lcom/example/key_warden/keywarden/engine/LockMode;)Z"⟩ : MethodName) (head1 [Jvm.Cond.code (⟨"com/example/key_warden/keywarden/engine/LockMode", "conflictsWith", "(Lcom/example/key_warden/keywarden/engine/LockMode;)Z"⟩ : MethodName) prog_26_method_6_code 3 (some .boolean)] ({ frames := 0, cells := 0, slots := 0, locals := 0 } : Room)) (fun a U => a = #[(.ref r1), (.ref r1)] ∧ Z.Warmed39 U.vm ∧ U.heap = h0) (fun _ _ _ _ _ => True) (fun _ U o U' => ∃ v L, o = .returned v ∧ own_QP (some (.int (0 : Int32))) n0 h0 v U'.heap L ∧ FrameEnd U o U' L ({ frames := 0, cells := 0, slots := 0, locals := 0 } : Room).cells ({ frames := 0, cells := 0, slots := 0, locals := 0 } : Room).slots) := by
  refine MetFree.of_bodySF (plainFor_of_name pn_9) hisR ?_
  intro p e s m args below meth c s₁ Bd hml0 hP hK
  obtain ⟨rfl, hZ, hh⟩ := hP
  have hx := Bd.exec
  have hby := Bd.bytes
  have hml : c.maxLocals = 3 := hml0
  have hown : s.vm.findClass "com/example/key_warden/keywarden/engine/LockMode" = some m.cls := findClass_of_methodNamed Bd.named
  have hnm := (name_of_methodNamed Bd.named Bd.method).1
  have X0 : Stand p l e ({ frames := 0, cells := 0, slots := 0, locals := 0 } : Room) s m #[(.ref r1), (.ref r1)] below meth c s₁ [] 0 0 := Stand.of_body Bd
  have e0 : s₁.heap = h0 := by rw [← hh, Bd.state]; rfl
  have N0 := Fr.nil n0
  have pre0 : ∀ t, Steps p.tables e below (s₁.setTop (mkF m 0 #[.val (.ref r1), .val (.ref r1), .unset] [])) t → Steps p.tables e below (s₁.setTop (entryFrame m #[(.ref r1), (.ref r1)] 3)) t := fun t k => castTop (ef_4_RR m r1 r1) k
  obtain ⟨T1, X1, e1, st1⟩ := getF X0 hx hZ hown (host := "") (Or.inl (hw _ (List.mem_of_getElem? (i := 21) rfl))) Via.refl e0 P1 (g := (mkF m 1 #[.val (.ref r1), .val (.ref r1), .unset] [(.ref r1)])) rfl rfl (hb hby d4_1)
  obtain ⟨T2, X2, e2, st2⟩ := getF X1 hx hZ hown (host := "") (Or.inl (hw _ (List.mem_of_getElem? (i := 21) rfl))) Via.refl e1 P1 (g := (mkF m 8 #[.val (.ref r1), .val (.ref r1), .unset] [(.ref r1)])) rfl rfl (hb hby d4_8)
  obtain ⟨fs, hr, hrun, hended, hW, hsame⟩ := X2.leave (v := (some (.int (0 : Int32)))) (fun h => by rw [Bd.returns] at h; cases h)
  refine ⟨_, _, pre0 _ ?_, hrun, hended, _, _, rfl, ?_, ⟨_, rfl⟩, hW, hsame.mono (by decide) (by decide)⟩
  · show Steps p.tables e below (s₁.setTop (mkF m 0 #[.val (.ref r1), .val (.ref r1), .unset] [])) _
    refine XS.aloadN X0.here hx rfl (hb hby d4_0) rfl rfl ?_
    show Steps p.tables e below (s₁.setTop (mkF m 1 #[.val (.ref r1), .val (.ref r1), .unset] [(.ref r1)])) _
    refine st1 _ ?_
    show Steps p.tables e below (T1.setTop (mkF m 4 #[.val (.ref r1), .val (.ref r1), .unset] [(.int (1 : Int32))])) _
    refine XS.ifNo X1.here hx rfl (hb hby d4_4) rfl (by decide) ?_
    show Steps p.tables e below (T1.setTop (mkF m 7 #[.val (.ref r1), .val (.ref r1), .unset] [])) _
    refine XS.aloadN X1.here hx rfl (hb hby d4_7) rfl rfl ?_
    show Steps p.tables e below (T1.setTop (mkF m 8 #[.val (.ref r1), .val (.ref r1), .unset] [(.ref r1)])) _
    refine st2 _ ?_
    show Steps p.tables e below (T2.setTop (mkF m 11 #[.val (.ref r1), .val (.ref r1), .unset] [(.int (1 : Int32))])) _
    refine XS.ifNo X2.here hx rfl (hb hby d4_11) rfl (by decide) ?_
    show Steps p.tables e below (T2.setTop (mkF m 14 #[.val (.ref r1), .val (.ref r1), .unset] [])) _
    refine XS.iconst X2.here hx rfl (hb hby d4_14) ?_
    show Steps p.tables e below (T2.setTop (mkF m 15 #[.val (.ref r1), .val (.ref r1), .unset] [(.int (0 : Int32))])) _
    refine XS.istoreN X2.here hx rfl (hb hby d4_15) rfl (l' := #[.val (.ref r1), .val (.ref r1), .val (.int (0 : Int32))]) rfl ?_
    show Steps p.tables e below (T2.setTop (mkF m 16 #[.val (.ref r1), .val (.ref r1), .val (.int (0 : Int32))] [])) _
    refine XS.goto X2.here hx rfl (pc0 := 16) (pc' := 132) rfl (hb hby d4_16) (by decide) (by decide) ?_
    show Steps p.tables e below (T2.setTop (mkF m 132 #[.val (.ref r1), .val (.ref r1), .val (.int (0 : Int32))] [])) _
    refine XS.iloadN X2.here hx rfl (hb hby d4_132) rfl ?_
    show Steps p.tables e below (T2.setTop (mkF m 133 #[.val (.ref r1), .val (.ref r1), .val (.int (0 : Int32))] [(.int (0 : Int32))])) _
    exact retN X2 hx (t := .boolean) Bd.returns (by simp) (hb hby d4_133) hr
  · show own_QP (some (.int (0 : Int32))) n0 h0 _ T2.heap _
    rw [e2]
    exact ⟨rfl, N0, rfl⟩
set_option maxRecDepth 65536 in
set_option maxHeartbeats 40000000 in
theorem rm1_8 (l : Launch) (Z : State) (a0 : Array Value) (hw : ∀ d ∈ tables_1, d.before a0 Z = true) (p1 : Int32) (h0 : Heap) (n0 : Nat) (O0 : Old Z n0 h0) (P1 : ((p1 &&& (2147483647 : Int32)) % (3 : Int32)) = (1 : Int32)) :
    MetFree l (⟨"com/example/key_warden/keywarden/engine/LockModeConflictsWithPinLaw", "pick", "(II)I"⟩ : MethodName) (head1 [Jvm.Cond.code (⟨"com/example/key_warden/keywarden/engine/LockModeConflictsWithPinLaw", "pick", "(II)I"⟩ : MethodName) method_2_code 4 (some .int)] ({ frames := 0, cells := 0, slots := 0, locals := 0 } : Room)) (fun a U => a = #[(.int (1 : Int32)), (.int p1)] ∧ Z.Warmed39 U.vm ∧ U.heap = h0) (fun _ _ _ _ _ => True) (fun _ U o U' => ∃ v L, o = .returned v ∧ own_QP (some (.int (1 : Int32))) n0 h0 v U'.heap L ∧ FrameEnd U o U' L ({ frames := 0, cells := 0, slots := 0, locals := 0 } : Room).cells ({ frames := 0, cells := 0, slots := 0, locals := 0 } : Room).slots) := by
  refine MetFree.of_bodySF (plainFor_of_name pn_4) hisR ?_
  intro p e s m args below meth c s₁ Bd hml0 hP hK
  obtain ⟨rfl, hZ, hh⟩ := hP
  have hx := Bd.exec
  have hby := Bd.bytes
  have hml : c.maxLocals = 4 := hml0
  have hown : s.vm.findClass "com/example/key_warden/keywarden/engine/LockModeConflictsWithPinLaw" = some m.cls := findClass_of_methodNamed Bd.named
  have hnm := (name_of_methodNamed Bd.named Bd.method).1
  have X0 : Stand p l e ({ frames := 0, cells := 0, slots := 0, locals := 0 } : Room) s m #[(.int (1 : Int32)), (.int p1)] below meth c s₁ [] 0 0 := Stand.of_body Bd
  have e0 : s₁.heap = h0 := by rw [← hh, Bd.state]; rfl
  have N0 := Fr.nil n0
  have pre0 : ∀ t, Steps p.tables e below (s₁.setTop (mkF m 0 #[.val (.int (1 : Int32)), .val (.int p1), .unset, .unset] [])) t → Steps p.tables e below (s₁.setTop (entryFrame m #[(.int (1 : Int32)), (.int p1)] 4)) t := fun t k => castTop (ef_1_II m (1 : Int32) p1) k
  obtain ⟨fs, hr, hrun, hended, hW, hsame⟩ := X0.leave (v := (some (.int (1 : Int32)))) (fun h => by rw [Bd.returns] at h; cases h)
  refine ⟨_, _, pre0 _ ?_, hrun, hended, _, _, rfl, ?_, ⟨_, rfl⟩, hW, hsame.mono (by decide) (by decide)⟩
  · show Steps p.tables e below (s₁.setTop (mkF m 0 #[.val (.int (1 : Int32)), .val (.int p1), .unset, .unset] [])) _
    refine XS.iloadN X0.here hx rfl (hb hby d1_0) rfl ?_
    show Steps p.tables e below (s₁.setTop (mkF m 1 #[.val (.int (1 : Int32)), .val (.int p1), .unset, .unset] [(.int p1)])) _
    refine X0.ldcInt hx hown (mvT hZ (hw _ (List.mem_of_getElem? (i := 4) rfl))) (g := (mkF m 1 #[.val (.int (1 : Int32)), .val (.int p1), .unset, .unset] [(.int p1)])) rfl (hb hby d1_1) _ ?_
    show Steps p.tables e below (s₁.setTop (mkF m 3 #[.val (.int (1 : Int32)), .val (.int p1), .unset, .unset] [(.int (2147483647 : Int32)), (.int p1)])) _
    refine XS.iand X0.here hx rfl (hb hby d1_3) rfl ?_
    show Steps p.tables e below (s₁.setTop (mkF m 4 #[.val (.int (1 : Int32)), .val (.int p1), .unset, .unset] [(.int (p1 &&& (2147483647 : Int32)))])) _
    refine XS.istoreN X0.here hx rfl (hb hby d1_4) rfl (l' := #[.val (.int (1 : Int32)), .val (.int p1), .val (.int (p1 &&& (2147483647 : Int32))), .unset]) rfl ?_
    show Steps p.tables e below (s₁.setTop (mkF m 5 #[.val (.int (1 : Int32)), .val (.int p1), .val (.int (p1 &&& (2147483647 : Int32))), .unset] [])) _
    refine XS.iloadN X0.here hx rfl (hb hby d1_5) rfl ?_
    show Steps p.tables e below (s₁.setTop (mkF m 6 #[.val (.int (1 : Int32)), .val (.int p1), .val (.int (p1 &&& (2147483647 : Int32))), .unset] [(.int (1 : Int32))])) _
    refine XS.ifNo X0.here hx rfl (hb hby d1_6) rfl (by decide) ?_
    show Steps p.tables e below (s₁.setTop (mkF m 9 #[.val (.int (1 : Int32)), .val (.int p1), .val (.int (p1 &&& (2147483647 : Int32))), .unset] [])) _
    refine XS.iloadN X0.here hx rfl (hb hby d1_9) rfl ?_
    show Steps p.tables e below (s₁.setTop (mkF m 10 #[.val (.int (1 : Int32)), .val (.int p1), .val (.int (p1 &&& (2147483647 : Int32))), .unset] [(.int (p1 &&& (2147483647 : Int32)))])) _
    refine XS.iconst X0.here hx rfl (hb hby d1_10) ?_
    show Steps p.tables e below (s₁.setTop (mkF m 11 #[.val (.int (1 : Int32)), .val (.int p1), .val (.int (p1 &&& (2147483647 : Int32))), .unset] [(.int (3 : Int32)), (.int (p1 &&& (2147483647 : Int32)))])) _
    refine iremM (g := (mkF m 11 #[.val (.int (1 : Int32)), .val (.int p1), .val (.int (p1 &&& (2147483647 : Int32))), .unset] [(.int (3 : Int32)), (.int (p1 &&& (2147483647 : Int32)))])) X0 hx rfl (hb hby d1_11) rfl (by decide) ?_
    show Steps p.tables e below (s₁.setTop (mkF m 12 #[.val (.int (1 : Int32)), .val (.int p1), .val (.int (p1 &&& (2147483647 : Int32))), .unset] [(.int ((p1 &&& (2147483647 : Int32)) % (3 : Int32)))])) _
    rw [P1]
    show Steps p.tables e below (s₁.setTop (mkF m 12 #[.val (.int (1 : Int32)), .val (.int p1), .val (.int (p1 &&& (2147483647 : Int32))), .unset] [(.int (1 : Int32))])) _
    refine XS.istoreN X0.here hx rfl (hb hby d1_12) rfl (l' := #[.val (.int (1 : Int32)), .val (.int p1), .val (.int (p1 &&& (2147483647 : Int32))), .val (.int (1 : Int32))]) rfl ?_
    show Steps p.tables e below (s₁.setTop (mkF m 13 #[.val (.int (1 : Int32)), .val (.int p1), .val (.int (p1 &&& (2147483647 : Int32))), .val (.int (1 : Int32))] [])) _
    refine XS.iloadN X0.here hx rfl (hb hby d1_13) rfl ?_
    show Steps p.tables e below (s₁.setTop (mkF m 14 #[.val (.int (1 : Int32)), .val (.int p1), .val (.int (p1 &&& (2147483647 : Int32))), .val (.int (1 : Int32))] [(.int (1 : Int32))])) _
    refine XS.iconst X0.here hx rfl (hb hby d1_14) ?_
    show Steps p.tables e below (s₁.setTop (mkF m 15 #[.val (.int (1 : Int32)), .val (.int p1), .val (.int (p1 &&& (2147483647 : Int32))), .val (.int (1 : Int32))] [(.int (2 : Int32)), (.int (1 : Int32))])) _
    refine XS.icmpYes X0.here hx rfl (pc0 := 15) (pc' := 21) rfl (hb hby d1_15) rfl (by decide) (by decide) (by decide) ?_
    show Steps p.tables e below (s₁.setTop (mkF m 21 #[.val (.int (1 : Int32)), .val (.int p1), .val (.int (p1 &&& (2147483647 : Int32))), .val (.int (1 : Int32))] [])) _
    refine XS.iloadN X0.here hx rfl (hb hby d1_21) rfl ?_
    show Steps p.tables e below (s₁.setTop (mkF m 22 #[.val (.int (1 : Int32)), .val (.int p1), .val (.int (p1 &&& (2147483647 : Int32))), .val (.int (1 : Int32))] [(.int (1 : Int32))])) _
    exact retI X0 hx Bd.returns (hb hby d1_22) hr
  · show own_QP (some (.int (1 : Int32))) n0 h0 _ s₁.heap _
    rw [e0]
    exact ⟨rfl, N0, rfl⟩
set_option maxRecDepth 65536 in
set_option maxHeartbeats 40000000 in
theorem rm3_8 (l : Launch) (Z : State) (a0 : Array Value) (hw : ∀ d ∈ tables_1, d.before a0 Z = true) (w_IS : Addr) (h0 : Heap) (n0 : Nat) (O0 : Old Z n0 h0) (P1 : Sta Z Z.heap "com/example/key_warden/keywarden/engine/LockMode" "IS" "Lcom/example/key_warden/keywarden/engine/LockMode;" (.ref w_IS)) :
    MetFree l (⟨"com/example/key_warden/keywarden/engine/LockModeConflictsWithPinLaw", "mode", "(I)Lcom/example/key_warden/keywarden/engine/LockMode;"⟩ : MethodName) (head1 [Jvm.Cond.code (⟨"com/example/key_warden/keywarden/engine/LockModeConflictsWithPinLaw", "mode", "(I)Lcom/example/key_warden/keywarden/engine/LockMode;"⟩ : MethodName) method_3_code 1 (some (.object "com/example/key_warden/keywarden/engine/LockMode"))] ({ frames := 0, cells := 0, slots := 0, locals := 0 } : Room)) (fun a U => a = #[(.int (1 : Int32))] ∧ Z.Warmed39 U.vm ∧ U.heap = h0) (fun _ _ _ _ _ => True) (fun _ U o U' => ∃ v L, o = .returned v ∧ own_QP (some (.ref w_IS)) n0 h0 v U'.heap L ∧ FrameEnd U o U' L ({ frames := 0, cells := 0, slots := 0, locals := 0 } : Room).cells ({ frames := 0, cells := 0, slots := 0, locals := 0 } : Room).slots) := by
  refine MetFree.of_bodySF (plainFor_of_name pn_4) hisR ?_
  intro p e s m args below meth c s₁ Bd hml0 hP hK
  obtain ⟨rfl, hZ, hh⟩ := hP
  have hx := Bd.exec
  have hby := Bd.bytes
  have hml : c.maxLocals = 1 := hml0
  have hown : s.vm.findClass "com/example/key_warden/keywarden/engine/LockModeConflictsWithPinLaw" = some m.cls := findClass_of_methodNamed Bd.named
  have hnm := (name_of_methodNamed Bd.named Bd.method).1
  have X0 : Stand p l e ({ frames := 0, cells := 0, slots := 0, locals := 0 } : Room) s m #[(.int (1 : Int32))] below meth c s₁ [] 0 0 := Stand.of_body Bd
  have e0 : s₁.heap = h0 := by rw [← hh, Bd.state]; rfl
  have N0 := Fr.nil n0
  have pre0 : ∀ t, Steps p.tables e below (s₁.setTop (mkF m 0 #[.val (.int (1 : Int32))] [])) t → Steps p.tables e below (s₁.setTop (entryFrame m #[(.int (1 : Int32))] 1)) t := fun t k => castTop (ef_3_I m (1 : Int32)) k
  obtain ⟨T1, X1, e1, st1⟩ := getS2 X0 hx hZ hown (host := "") (Or.inl (hw _ (List.mem_of_getElem? (i := 31) rfl))) Via.refl e0 (P1.ext O0.2) (g := (mkF m 13 #[.val (.int (1 : Int32))] [])) rfl (hb hby d3_13)
  obtain ⟨fs, hr, hrun, hended, hW, hsame⟩ := X1.leave (v := (some (.ref w_IS))) (fun h => by rw [Bd.returns] at h; cases h)
  refine ⟨_, _, pre0 _ ?_, hrun, hended, _, _, rfl, ?_, ⟨_, rfl⟩, hW, hsame.mono (by decide) (by decide)⟩
  · show Steps p.tables e below (s₁.setTop (mkF m 0 #[.val (.int (1 : Int32))] [])) _
    refine XS.iloadN X0.here hx rfl (hb hby d3_0) rfl ?_
    show Steps p.tables e below (s₁.setTop (mkF m 1 #[.val (.int (1 : Int32))] [(.int (1 : Int32))])) _
    refine XS.ifYes X0.here hx rfl (pc0 := 1) (pc' := 8) rfl (hb hby d3_1) rfl (by decide) (by decide) (by decide) ?_
    show Steps p.tables e below (s₁.setTop (mkF m 8 #[.val (.int (1 : Int32))] [])) _
    refine XS.iloadN X0.here hx rfl (hb hby d3_8) rfl ?_
    show Steps p.tables e below (s₁.setTop (mkF m 9 #[.val (.int (1 : Int32))] [(.int (1 : Int32))])) _
    refine XS.iconst X0.here hx rfl (hb hby d3_9) ?_
    show Steps p.tables e below (s₁.setTop (mkF m 10 #[.val (.int (1 : Int32))] [(.int (1 : Int32)), (.int (1 : Int32))])) _
    refine XS.icmpNo X0.here hx rfl (hb hby d3_10) rfl (by decide) ?_
    show Steps p.tables e below (s₁.setTop (mkF m 13 #[.val (.int (1 : Int32))] [])) _
    refine st1 _ ?_
    show Steps p.tables e below (T1.setTop (mkF m 16 #[.val (.int (1 : Int32))] [(.ref w_IS)])) _
    exact retA X1 hx Bd.returns rfl rfl rfl (hb hby d3_16) hr
  · show own_QP (some (.ref w_IS)) n0 h0 _ T1.heap _
    rw [e1]
    exact ⟨rfl, N0, rfl⟩
set_option maxRecDepth 65536 in
set_option maxHeartbeats 40000000 in
theorem rm4_13 (l : Launch) (Z : State) (a0 : Array Value) (hw : ∀ d ∈ tables_1, d.before a0 Z = true) (r1 : Addr) (r2 : Addr) (h0 : Heap) (n0 : Nat) (O0 : Old Z n0 h0) (P1 : Fld Z h0 r1 "com/example/key_warden/keywarden/engine/LockMode" "intention" "Z" (.int (1 : Int32))) (P2 : Fld Z h0 r2 "com/example/key_warden/keywarden/engine/LockMode" "intention" "Z" (.int (1 : Int32))) :
    MetFree l (⟨"com/example/key_warden/keywarden/engine/LockMode", "conflictsWith", "(Lcom/example/key_warden/keywarden/engine/LockMode;)Z"⟩ : MethodName) (head1 [Jvm.Cond.code (⟨"com/example/key_warden/keywarden/engine/LockMode", "conflictsWith", "(Lcom/example/key_warden/keywarden/engine/LockMode;)Z"⟩ : MethodName) prog_26_method_6_code 3 (some .boolean)] ({ frames := 0, cells := 0, slots := 0, locals := 0 } : Room)) (fun a U => a = #[(.ref r1), (.ref r2)] ∧ Z.Warmed39 U.vm ∧ U.heap = h0) (fun _ _ _ _ _ => True) (fun _ U o U' => ∃ v L, o = .returned v ∧ own_QP (some (.int (0 : Int32))) n0 h0 v U'.heap L ∧ FrameEnd U o U' L ({ frames := 0, cells := 0, slots := 0, locals := 0 } : Room).cells ({ frames := 0, cells := 0, slots := 0, locals := 0 } : Room).slots) := by
  refine MetFree.of_bodySF (plainFor_of_name pn_9) hisR ?_
  intro p e s m args below meth c s₁ Bd hml0 hP hK
  obtain ⟨rfl, hZ, hh⟩ := hP
  have hx := Bd.exec
  have hby := Bd.bytes
  have hml : c.maxLocals = 3 := hml0
  have hown : s.vm.findClass "com/example/key_warden/keywarden/engine/LockMode" = some m.cls := findClass_of_methodNamed Bd.named
  have hnm := (name_of_methodNamed Bd.named Bd.method).1
  have X0 : Stand p l e ({ frames := 0, cells := 0, slots := 0, locals := 0 } : Room) s m #[(.ref r1), (.ref r2)] below meth c s₁ [] 0 0 := Stand.of_body Bd
  have e0 : s₁.heap = h0 := by rw [← hh, Bd.state]; rfl
  have N0 := Fr.nil n0
  have pre0 : ∀ t, Steps p.tables e below (s₁.setTop (mkF m 0 #[.val (.ref r1), .val (.ref r2), .unset] [])) t → Steps p.tables e below (s₁.setTop (entryFrame m #[(.ref r1), (.ref r2)] 3)) t := fun t k => castTop (ef_4_RR m r1 r2) k
  obtain ⟨T1, X1, e1, st1⟩ := getF X0 hx hZ hown (host := "") (Or.inl (hw _ (List.mem_of_getElem? (i := 21) rfl))) Via.refl e0 P1 (g := (mkF m 1 #[.val (.ref r1), .val (.ref r2), .unset] [(.ref r1)])) rfl rfl (hb hby d4_1)
  obtain ⟨T2, X2, e2, st2⟩ := getF X1 hx hZ hown (host := "") (Or.inl (hw _ (List.mem_of_getElem? (i := 21) rfl))) Via.refl e1 P2 (g := (mkF m 8 #[.val (.ref r1), .val (.ref r2), .unset] [(.ref r2)])) rfl rfl (hb hby d4_8)
  obtain ⟨fs, hr, hrun, hended, hW, hsame⟩ := X2.leave (v := (some (.int (0 : Int32)))) (fun h => by rw [Bd.returns] at h; cases h)
  refine ⟨_, _, pre0 _ ?_, hrun, hended, _, _, rfl, ?_, ⟨_, rfl⟩, hW, hsame.mono (by decide) (by decide)⟩
  · show Steps p.tables e below (s₁.setTop (mkF m 0 #[.val (.ref r1), .val (.ref r2), .unset] [])) _
    refine XS.aloadN X0.here hx rfl (hb hby d4_0) rfl rfl ?_
    show Steps p.tables e below (s₁.setTop (mkF m 1 #[.val (.ref r1), .val (.ref r2), .unset] [(.ref r1)])) _
    refine st1 _ ?_
    show Steps p.tables e below (T1.setTop (mkF m 4 #[.val (.ref r1), .val (.ref r2), .unset] [(.int (1 : Int32))])) _
    refine XS.ifNo X1.here hx rfl (hb hby d4_4) rfl (by decide) ?_
    show Steps p.tables e below (T1.setTop (mkF m 7 #[.val (.ref r1), .val (.ref r2), .unset] [])) _
    refine XS.aloadN X1.here hx rfl (hb hby d4_7) rfl rfl ?_
    show Steps p.tables e below (T1.setTop (mkF m 8 #[.val (.ref r1), .val (.ref r2), .unset] [(.ref r2)])) _
    refine st2 _ ?_
    show Steps p.tables e below (T2.setTop (mkF m 11 #[.val (.ref r1), .val (.ref r2), .unset] [(.int (1 : Int32))])) _
    refine XS.ifNo X2.here hx rfl (hb hby d4_11) rfl (by decide) ?_
    show Steps p.tables e below (T2.setTop (mkF m 14 #[.val (.ref r1), .val (.ref r2), .unset] [])) _
    refine XS.iconst X2.here hx rfl (hb hby d4_14) ?_
    show Steps p.tables e below (T2.setTop (mkF m 15 #[.val (.ref r1), .val (.ref r2), .unset] [(.int (0 : Int32))])) _
    refine XS.istoreN X2.here hx rfl (hb hby d4_15) rfl (l' := #[.val (.ref r1), .val (.ref r2), .val (.int (0 : Int32))]) rfl ?_
    show Steps p.tables e below (T2.setTop (mkF m 16 #[.val (.ref r1), .val (.ref r2), .val (.int (0 : Int32))] [])) _
    refine XS.goto X2.here hx rfl (pc0 := 16) (pc' := 132) rfl (hb hby d4_16) (by decide) (by decide) ?_
    show Steps p.tables e below (T2.setTop (mkF m 132 #[.val (.ref r1), .val (.ref r2), .val (.int (0 : Int32))] [])) _
    refine XS.iloadN X2.here hx rfl (hb hby d4_132) rfl ?_
    show Steps p.tables e below (T2.setTop (mkF m 133 #[.val (.ref r1), .val (.ref r2), .val (.int (0 : Int32))] [(.int (0 : Int32))])) _
    exact retN X2 hx (t := .boolean) Bd.returns (by simp) (hb hby d4_133) hr
  · show own_QP (some (.int (0 : Int32))) n0 h0 _ T2.heap _
    rw [e2]
    exact ⟨rfl, N0, rfl⟩
set_option maxRecDepth 65536 in
set_option maxHeartbeats 40000000 in
theorem rm1_9 (l : Launch) (Z : State) (a0 : Array Value) (hw : ∀ d ∈ tables_1, d.before a0 Z = true) (p1 : Int32) (h0 : Heap) (n0 : Nat) (O0 : Old Z n0 h0) (P1 : ((p1 &&& (2147483647 : Int32)) % (3 : Int32)) = (2 : Int32)) :
    MetFree l (⟨"com/example/key_warden/keywarden/engine/LockModeConflictsWithPinLaw", "pick", "(II)I"⟩ : MethodName) (head1 [Jvm.Cond.code (⟨"com/example/key_warden/keywarden/engine/LockModeConflictsWithPinLaw", "pick", "(II)I"⟩ : MethodName) method_2_code 4 (some .int)] ({ frames := 0, cells := 0, slots := 0, locals := 0 } : Room)) (fun a U => a = #[(.int (1 : Int32)), (.int p1)] ∧ Z.Warmed39 U.vm ∧ U.heap = h0) (fun _ _ _ _ _ => True) (fun _ U o U' => ∃ v L, o = .returned v ∧ own_QP (some (.int (9 : Int32))) n0 h0 v U'.heap L ∧ FrameEnd U o U' L ({ frames := 0, cells := 0, slots := 0, locals := 0 } : Room).cells ({ frames := 0, cells := 0, slots := 0, locals := 0 } : Room).slots) := by
  refine MetFree.of_bodySF (plainFor_of_name pn_4) hisR ?_
  intro p e s m args below meth c s₁ Bd hml0 hP hK
  obtain ⟨rfl, hZ, hh⟩ := hP
  have hx := Bd.exec
  have hby := Bd.bytes
  have hml : c.maxLocals = 4 := hml0
  have hown : s.vm.findClass "com/example/key_warden/keywarden/engine/LockModeConflictsWithPinLaw" = some m.cls := findClass_of_methodNamed Bd.named
  have hnm := (name_of_methodNamed Bd.named Bd.method).1
  have X0 : Stand p l e ({ frames := 0, cells := 0, slots := 0, locals := 0 } : Room) s m #[(.int (1 : Int32)), (.int p1)] below meth c s₁ [] 0 0 := Stand.of_body Bd
  have e0 : s₁.heap = h0 := by rw [← hh, Bd.state]; rfl
  have N0 := Fr.nil n0
  have pre0 : ∀ t, Steps p.tables e below (s₁.setTop (mkF m 0 #[.val (.int (1 : Int32)), .val (.int p1), .unset, .unset] [])) t → Steps p.tables e below (s₁.setTop (entryFrame m #[(.int (1 : Int32)), (.int p1)] 4)) t := fun t k => castTop (ef_1_II m (1 : Int32) p1) k
  obtain ⟨fs, hr, hrun, hended, hW, hsame⟩ := X0.leave (v := (some (.int (9 : Int32)))) (fun h => by rw [Bd.returns] at h; cases h)
  refine ⟨_, _, pre0 _ ?_, hrun, hended, _, _, rfl, ?_, ⟨_, rfl⟩, hW, hsame.mono (by decide) (by decide)⟩
  · show Steps p.tables e below (s₁.setTop (mkF m 0 #[.val (.int (1 : Int32)), .val (.int p1), .unset, .unset] [])) _
    refine XS.iloadN X0.here hx rfl (hb hby d1_0) rfl ?_
    show Steps p.tables e below (s₁.setTop (mkF m 1 #[.val (.int (1 : Int32)), .val (.int p1), .unset, .unset] [(.int p1)])) _
    refine X0.ldcInt hx hown (mvT hZ (hw _ (List.mem_of_getElem? (i := 4) rfl))) (g := (mkF m 1 #[.val (.int (1 : Int32)), .val (.int p1), .unset, .unset] [(.int p1)])) rfl (hb hby d1_1) _ ?_
    show Steps p.tables e below (s₁.setTop (mkF m 3 #[.val (.int (1 : Int32)), .val (.int p1), .unset, .unset] [(.int (2147483647 : Int32)), (.int p1)])) _
    refine XS.iand X0.here hx rfl (hb hby d1_3) rfl ?_
    show Steps p.tables e below (s₁.setTop (mkF m 4 #[.val (.int (1 : Int32)), .val (.int p1), .unset, .unset] [(.int (p1 &&& (2147483647 : Int32)))])) _
    refine XS.istoreN X0.here hx rfl (hb hby d1_4) rfl (l' := #[.val (.int (1 : Int32)), .val (.int p1), .val (.int (p1 &&& (2147483647 : Int32))), .unset]) rfl ?_
    show Steps p.tables e below (s₁.setTop (mkF m 5 #[.val (.int (1 : Int32)), .val (.int p1), .val (.int (p1 &&& (2147483647 : Int32))), .unset] [])) _
    refine XS.iloadN X0.here hx rfl (hb hby d1_5) rfl ?_
    show Steps p.tables e below (s₁.setTop (mkF m 6 #[.val (.int (1 : Int32)), .val (.int p1), .val (.int (p1 &&& (2147483647 : Int32))), .unset] [(.int (1 : Int32))])) _
    refine XS.ifNo X0.here hx rfl (hb hby d1_6) rfl (by decide) ?_
    show Steps p.tables e below (s₁.setTop (mkF m 9 #[.val (.int (1 : Int32)), .val (.int p1), .val (.int (p1 &&& (2147483647 : Int32))), .unset] [])) _
    refine XS.iloadN X0.here hx rfl (hb hby d1_9) rfl ?_
    show Steps p.tables e below (s₁.setTop (mkF m 10 #[.val (.int (1 : Int32)), .val (.int p1), .val (.int (p1 &&& (2147483647 : Int32))), .unset] [(.int (p1 &&& (2147483647 : Int32)))])) _
    refine XS.iconst X0.here hx rfl (hb hby d1_10) ?_
    show Steps p.tables e below (s₁.setTop (mkF m 11 #[.val (.int (1 : Int32)), .val (.int p1), .val (.int (p1 &&& (2147483647 : Int32))), .unset] [(.int (3 : Int32)), (.int (p1 &&& (2147483647 : Int32)))])) _
    refine iremM (g := (mkF m 11 #[.val (.int (1 : Int32)), .val (.int p1), .val (.int (p1 &&& (2147483647 : Int32))), .unset] [(.int (3 : Int32)), (.int (p1 &&& (2147483647 : Int32)))])) X0 hx rfl (hb hby d1_11) rfl (by decide) ?_
    show Steps p.tables e below (s₁.setTop (mkF m 12 #[.val (.int (1 : Int32)), .val (.int p1), .val (.int (p1 &&& (2147483647 : Int32))), .unset] [(.int ((p1 &&& (2147483647 : Int32)) % (3 : Int32)))])) _
    rw [P1]
    show Steps p.tables e below (s₁.setTop (mkF m 12 #[.val (.int (1 : Int32)), .val (.int p1), .val (.int (p1 &&& (2147483647 : Int32))), .unset] [(.int (2 : Int32))])) _
    refine XS.istoreN X0.here hx rfl (hb hby d1_12) rfl (l' := #[.val (.int (1 : Int32)), .val (.int p1), .val (.int (p1 &&& (2147483647 : Int32))), .val (.int (2 : Int32))]) rfl ?_
    show Steps p.tables e below (s₁.setTop (mkF m 13 #[.val (.int (1 : Int32)), .val (.int p1), .val (.int (p1 &&& (2147483647 : Int32))), .val (.int (2 : Int32))] [])) _
    refine XS.iloadN X0.here hx rfl (hb hby d1_13) rfl ?_
    show Steps p.tables e below (s₁.setTop (mkF m 14 #[.val (.int (1 : Int32)), .val (.int p1), .val (.int (p1 &&& (2147483647 : Int32))), .val (.int (2 : Int32))] [(.int (2 : Int32))])) _
    refine XS.iconst X0.here hx rfl (hb hby d1_14) ?_
    show Steps p.tables e below (s₁.setTop (mkF m 15 #[.val (.int (1 : Int32)), .val (.int p1), .val (.int (p1 &&& (2147483647 : Int32))), .val (.int (2 : Int32))] [(.int (2 : Int32)), (.int (2 : Int32))])) _
    refine XS.icmpNo X0.here hx rfl (hb hby d1_15) rfl (by decide) ?_
    show Steps p.tables e below (s₁.setTop (mkF m 18 #[.val (.int (1 : Int32)), .val (.int p1), .val (.int (p1 &&& (2147483647 : Int32))), .val (.int (2 : Int32))] [])) _
    refine XS.bipush X0.here hx rfl (hb hby d1_18) ?_
    show Steps p.tables e below (s₁.setTop (mkF m 20 #[.val (.int (1 : Int32)), .val (.int p1), .val (.int (p1 &&& (2147483647 : Int32))), .val (.int (2 : Int32))] [(.int (9 : Int32))])) _
    exact retI X0 hx Bd.returns (hb hby d1_20) hr
  · show own_QP (some (.int (9 : Int32))) n0 h0 _ s₁.heap _
    rw [e0]
    exact ⟨rfl, N0, rfl⟩
set_option maxRecDepth 65536 in
set_option maxHeartbeats 40000000 in
theorem rm3_9 (l : Launch) (Z : State) (a0 : Array Value) (hw : ∀ d ∈ tables_1, d.before a0 Z = true) (w_AUTO_INC : Addr) (h0 : Heap) (n0 : Nat) (O0 : Old Z n0 h0) (P1 : Sta Z Z.heap "com/example/key_warden/keywarden/engine/LockMode" "AUTO_INC" "Lcom/example/key_warden/keywarden/engine/LockMode;" (.ref w_AUTO_INC)) :
    MetFree l (⟨"com/example/key_warden/keywarden/engine/LockModeConflictsWithPinLaw", "mode", "(I)Lcom/example/key_warden/keywarden/engine/LockMode;"⟩ : MethodName) (head1 [Jvm.Cond.code (⟨"com/example/key_warden/keywarden/engine/LockModeConflictsWithPinLaw", "mode", "(I)Lcom/example/key_warden/keywarden/engine/LockMode;"⟩ : MethodName) method_3_code 1 (some (.object "com/example/key_warden/keywarden/engine/LockMode"))] ({ frames := 0, cells := 0, slots := 0, locals := 0 } : Room)) (fun a U => a = #[(.int (9 : Int32))] ∧ Z.Warmed39 U.vm ∧ U.heap = h0) (fun _ _ _ _ _ => True) (fun _ U o U' => ∃ v L, o = .returned v ∧ own_QP (some (.ref w_AUTO_INC)) n0 h0 v U'.heap L ∧ FrameEnd U o U' L ({ frames := 0, cells := 0, slots := 0, locals := 0 } : Room).cells ({ frames := 0, cells := 0, slots := 0, locals := 0 } : Room).slots) := by
  refine MetFree.of_bodySF (plainFor_of_name pn_4) hisR ?_
  intro p e s m args below meth c s₁ Bd hml0 hP hK
  obtain ⟨rfl, hZ, hh⟩ := hP
  have hx := Bd.exec
  have hby := Bd.bytes
  have hml : c.maxLocals = 1 := hml0
  have hown : s.vm.findClass "com/example/key_warden/keywarden/engine/LockModeConflictsWithPinLaw" = some m.cls := findClass_of_methodNamed Bd.named
  have hnm := (name_of_methodNamed Bd.named Bd.method).1
  have X0 : Stand p l e ({ frames := 0, cells := 0, slots := 0, locals := 0 } : Room) s m #[(.int (9 : Int32))] below meth c s₁ [] 0 0 := Stand.of_body Bd
  have e0 : s₁.heap = h0 := by rw [← hh, Bd.state]; rfl
  have N0 := Fr.nil n0
  have pre0 : ∀ t, Steps p.tables e below (s₁.setTop (mkF m 0 #[.val (.int (9 : Int32))] [])) t → Steps p.tables e below (s₁.setTop (entryFrame m #[(.int (9 : Int32))] 1)) t := fun t k => castTop (ef_3_I m (9 : Int32)) k
  obtain ⟨T1, X1, e1, st1⟩ := getS2 X0 hx hZ hown (host := "") (Or.inl (hw _ (List.mem_of_getElem? (i := 35) rfl))) Via.refl e0 (P1.ext O0.2) (g := (mkF m 83 #[.val (.int (9 : Int32))] [])) rfl (hb hby d3_83)
  obtain ⟨fs, hr, hrun, hended, hW, hsame⟩ := X1.leave (v := (some (.ref w_AUTO_INC))) (fun h => by rw [Bd.returns] at h; cases h)
  refine ⟨_, _, pre0 _ ?_, hrun, hended, _, _, rfl, ?_, ⟨_, rfl⟩, hW, hsame.mono (by decide) (by decide)⟩
  · show Steps p.tables e below (s₁.setTop (mkF m 0 #[.val (.int (9 : Int32))] [])) _
    refine XS.iloadN X0.here hx rfl (hb hby d3_0) rfl ?_
    show Steps p.tables e below (s₁.setTop (mkF m 1 #[.val (.int (9 : Int32))] [(.int (9 : Int32))])) _
    refine XS.ifYes X0.here hx rfl (pc0 := 1) (pc' := 8) rfl (hb hby d3_1) rfl (by decide) (by decide) (by decide) ?_
    show Steps p.tables e below (s₁.setTop (mkF m 8 #[.val (.int (9 : Int32))] [])) _
    refine XS.iloadN X0.here hx rfl (hb hby d3_8) rfl ?_
    show Steps p.tables e below (s₁.setTop (mkF m 9 #[.val (.int (9 : Int32))] [(.int (9 : Int32))])) _
    refine XS.iconst X0.here hx rfl (hb hby d3_9) ?_
    show Steps p.tables e below (s₁.setTop (mkF m 10 #[.val (.int (9 : Int32))] [(.int (1 : Int32)), (.int (9 : Int32))])) _
    refine XS.icmpYes X0.here hx rfl (pc0 := 10) (pc' := 17) rfl (hb hby d3_10) rfl (by decide) (by decide) (by decide) ?_
    show Steps p.tables e below (s₁.setTop (mkF m 17 #[.val (.int (9 : Int32))] [])) _
    refine XS.iloadN X0.here hx rfl (hb hby d3_17) rfl ?_
    show Steps p.tables e below (s₁.setTop (mkF m 18 #[.val (.int (9 : Int32))] [(.int (9 : Int32))])) _
    refine XS.iconst X0.here hx rfl (hb hby d3_18) ?_
    show Steps p.tables e below (s₁.setTop (mkF m 19 #[.val (.int (9 : Int32))] [(.int (2 : Int32)), (.int (9 : Int32))])) _
    refine XS.icmpYes X0.here hx rfl (pc0 := 19) (pc' := 26) rfl (hb hby d3_19) rfl (by decide) (by decide) (by decide) ?_
    show Steps p.tables e below (s₁.setTop (mkF m 26 #[.val (.int (9 : Int32))] [])) _
    refine XS.iloadN X0.here hx rfl (hb hby d3_26) rfl ?_
    show Steps p.tables e below (s₁.setTop (mkF m 27 #[.val (.int (9 : Int32))] [(.int (9 : Int32))])) _
    refine XS.iconst X0.here hx rfl (hb hby d3_27) ?_
    show Steps p.tables e below (s₁.setTop (mkF m 28 #[.val (.int (9 : Int32))] [(.int (3 : Int32)), (.int (9 : Int32))])) _
    refine XS.icmpYes X0.here hx rfl (pc0 := 28) (pc' := 35) rfl (hb hby d3_28) rfl (by decide) (by decide) (by decide) ?_
    show Steps p.tables e below (s₁.setTop (mkF m 35 #[.val (.int (9 : Int32))] [])) _
    refine XS.iloadN X0.here hx rfl (hb hby d3_35) rfl ?_
    show Steps p.tables e below (s₁.setTop (mkF m 36 #[.val (.int (9 : Int32))] [(.int (9 : Int32))])) _
    refine XS.iconst X0.here hx rfl (hb hby d3_36) ?_
    show Steps p.tables e below (s₁.setTop (mkF m 37 #[.val (.int (9 : Int32))] [(.int (4 : Int32)), (.int (9 : Int32))])) _
    refine XS.icmpYes X0.here hx rfl (pc0 := 37) (pc' := 44) rfl (hb hby d3_37) rfl (by decide) (by decide) (by decide) ?_
    show Steps p.tables e below (s₁.setTop (mkF m 44 #[.val (.int (9 : Int32))] [])) _
    refine XS.iloadN X0.here hx rfl (hb hby d3_44) rfl ?_
    show Steps p.tables e below (s₁.setTop (mkF m 45 #[.val (.int (9 : Int32))] [(.int (9 : Int32))])) _
    refine XS.iconst X0.here hx rfl (hb hby d3_45) ?_
    show Steps p.tables e below (s₁.setTop (mkF m 46 #[.val (.int (9 : Int32))] [(.int (5 : Int32)), (.int (9 : Int32))])) _
    refine XS.icmpYes X0.here hx rfl (pc0 := 46) (pc' := 53) rfl (hb hby d3_46) rfl (by decide) (by decide) (by decide) ?_
    show Steps p.tables e below (s₁.setTop (mkF m 53 #[.val (.int (9 : Int32))] [])) _
    refine XS.iloadN X0.here hx rfl (hb hby d3_53) rfl ?_
    show Steps p.tables e below (s₁.setTop (mkF m 54 #[.val (.int (9 : Int32))] [(.int (9 : Int32))])) _
    refine XS.bipush X0.here hx rfl (hb hby d3_54) ?_
    show Steps p.tables e below (s₁.setTop (mkF m 56 #[.val (.int (9 : Int32))] [(.int (6 : Int32)), (.int (9 : Int32))])) _
    refine XS.icmpYes X0.here hx rfl (pc0 := 56) (pc' := 63) rfl (hb hby d3_56) rfl (by decide) (by decide) (by decide) ?_
    show Steps p.tables e below (s₁.setTop (mkF m 63 #[.val (.int (9 : Int32))] [])) _
    refine XS.iloadN X0.here hx rfl (hb hby d3_63) rfl ?_
    show Steps p.tables e below (s₁.setTop (mkF m 64 #[.val (.int (9 : Int32))] [(.int (9 : Int32))])) _
    refine XS.bipush X0.here hx rfl (hb hby d3_64) ?_
    show Steps p.tables e below (s₁.setTop (mkF m 66 #[.val (.int (9 : Int32))] [(.int (7 : Int32)), (.int (9 : Int32))])) _
    refine XS.icmpYes X0.here hx rfl (pc0 := 66) (pc' := 73) rfl (hb hby d3_66) rfl (by decide) (by decide) (by decide) ?_
    show Steps p.tables e below (s₁.setTop (mkF m 73 #[.val (.int (9 : Int32))] [])) _
    refine XS.iloadN X0.here hx rfl (hb hby d3_73) rfl ?_
    show Steps p.tables e below (s₁.setTop (mkF m 74 #[.val (.int (9 : Int32))] [(.int (9 : Int32))])) _
    refine XS.bipush X0.here hx rfl (hb hby d3_74) ?_
    show Steps p.tables e below (s₁.setTop (mkF m 76 #[.val (.int (9 : Int32))] [(.int (8 : Int32)), (.int (9 : Int32))])) _
    refine XS.icmpYes X0.here hx rfl (pc0 := 76) (pc' := 83) rfl (hb hby d3_76) rfl (by decide) (by decide) (by decide) ?_
    show Steps p.tables e below (s₁.setTop (mkF m 83 #[.val (.int (9 : Int32))] [])) _
    refine st1 _ ?_
    show Steps p.tables e below (T1.setTop (mkF m 86 #[.val (.int (9 : Int32))] [(.ref w_AUTO_INC)])) _
    exact retA X1 hx Bd.returns rfl rfl rfl (hb hby d3_86) hr
  · show own_QP (some (.ref w_AUTO_INC)) n0 h0 _ T1.heap _
    rw [e1]
    exact ⟨rfl, N0, rfl⟩
set_option maxRecDepth 65536 in
set_option maxHeartbeats 40000000 in
theorem rm4_14 (l : Launch) (Z : State) (a0 : Array Value) (hw : ∀ d ∈ tables_1, d.before a0 Z = true) (r1 : Addr) (r2 : Addr) (h0 : Heap) (n0 : Nat) (O0 : Old Z n0 h0) (P1 : Fld Z h0 r1 "com/example/key_warden/keywarden/engine/LockMode" "intention" "Z" (.int (1 : Int32))) (P2 : Fld Z h0 r2 "com/example/key_warden/keywarden/engine/LockMode" "intention" "Z" (.int (0 : Int32))) (P3 : Fld Z h0 r1 "com/example/key_warden/keywarden/engine/LockMode" "keyLock" "Z" (.int (0 : Int32))) (P4 : Fld Z h0 r2 "com/example/key_warden/keywarden/engine/LockMode" "keyLock" "Z" (.int (1 : Int32))) :
    MetFree l (⟨"com/example/key_warden/keywarden/engine/LockMode", "conflictsWith", "(Lcom/example/key_warden/keywarden/engine/LockMode;)Z"⟩ : MethodName) (head1 [Jvm.Cond.code (⟨"com/example/key_warden/keywarden/engine/LockMode", "conflictsWith", "(Lcom/example/key_warden/keywarden/engine/LockMode;)Z"⟩ : MethodName) prog_26_method_6_code 3 (some .boolean)] ({ frames := 0, cells := 0, slots := 0, locals := 0 } : Room)) (fun a U => a = #[(.ref r1), (.ref r2)] ∧ Z.Warmed39 U.vm ∧ U.heap = h0) (fun _ _ _ _ _ => True) (fun _ U o U' => ∃ v L, o = .returned v ∧ own_QP (some (.int (0 : Int32))) n0 h0 v U'.heap L ∧ FrameEnd U o U' L ({ frames := 0, cells := 0, slots := 0, locals := 0 } : Room).cells ({ frames := 0, cells := 0, slots := 0, locals := 0 } : Room).slots) := by
  refine MetFree.of_bodySF (plainFor_of_name pn_9) hisR ?_
  intro p e s m args below meth c s₁ Bd hml0 hP hK
  obtain ⟨rfl, hZ, hh⟩ := hP
  have hx := Bd.exec
  have hby := Bd.bytes
  have hml : c.maxLocals = 3 := hml0
  have hown : s.vm.findClass "com/example/key_warden/keywarden/engine/LockMode" = some m.cls := findClass_of_methodNamed Bd.named
  have hnm := (name_of_methodNamed Bd.named Bd.method).1
  have X0 : Stand p l e ({ frames := 0, cells := 0, slots := 0, locals := 0 } : Room) s m #[(.ref r1), (.ref r2)] below meth c s₁ [] 0 0 := Stand.of_body Bd
  have e0 : s₁.heap = h0 := by rw [← hh, Bd.state]; rfl
  have N0 := Fr.nil n0
  have pre0 : ∀ t, Steps p.tables e below (s₁.setTop (mkF m 0 #[.val (.ref r1), .val (.ref r2), .unset] [])) t → Steps p.tables e below (s₁.setTop (entryFrame m #[(.ref r1), (.ref r2)] 3)) t := fun t k => castTop (ef_4_RR m r1 r2) k
  obtain ⟨T1, X1, e1, st1⟩ := getF X0 hx hZ hown (host := "") (Or.inl (hw _ (List.mem_of_getElem? (i := 21) rfl))) Via.refl e0 P1 (g := (mkF m 1 #[.val (.ref r1), .val (.ref r2), .unset] [(.ref r1)])) rfl rfl (hb hby d4_1)
  obtain ⟨T2, X2, e2, st2⟩ := getF X1 hx hZ hown (host := "") (Or.inl (hw _ (List.mem_of_getElem? (i := 21) rfl))) Via.refl e1 P2 (g := (mkF m 8 #[.val (.ref r1), .val (.ref r2), .unset] [(.ref r2)])) rfl rfl (hb hby d4_8)
  obtain ⟨T3, X3, e3, st3⟩ := getF X2 hx hZ hown (host := "") (Or.inl (hw _ (List.mem_of_getElem? (i := 23) rfl))) Via.refl e2 P3 (g := (mkF m 20 #[.val (.ref r1), .val (.ref r2), .unset] [(.ref r1)])) rfl rfl (hb hby d4_20)
  obtain ⟨T4, X4, e4, st4⟩ := getF X3 hx hZ hown (host := "") (Or.inl (hw _ (List.mem_of_getElem? (i := 23) rfl))) Via.refl e3 P4 (g := (mkF m 27 #[.val (.ref r1), .val (.ref r2), .unset] [(.ref r2)])) rfl rfl (hb hby d4_27)
  obtain ⟨T5, X5, e5, st5⟩ := getF X4 hx hZ hown (host := "") (Or.inl (hw _ (List.mem_of_getElem? (i := 21) rfl))) Via.refl e4 P1 (g := (mkF m 34 #[.val (.ref r1), .val (.ref r2), .unset] [(.ref r1)])) rfl rfl (hb hby d4_34)
  obtain ⟨fs, hr, hrun, hended, hW, hsame⟩ := X5.leave (v := (some (.int (0 : Int32)))) (fun h => by rw [Bd.returns] at h; cases h)
  refine ⟨_, _, pre0 _ ?_, hrun, hended, _, _, rfl, ?_, ⟨_, rfl⟩, hW, hsame.mono (by decide) (by decide)⟩
  · show Steps p.tables e below (s₁.setTop (mkF m 0 #[.val (.ref r1), .val (.ref r2), .unset] [])) _
    refine XS.aloadN X0.here hx rfl (hb hby d4_0) rfl rfl ?_
    show Steps p.tables e below (s₁.setTop (mkF m 1 #[.val (.ref r1), .val (.ref r2), .unset] [(.ref r1)])) _
    refine st1 _ ?_
    show Steps p.tables e below (T1.setTop (mkF m 4 #[.val (.ref r1), .val (.ref r2), .unset] [(.int (1 : Int32))])) _
    refine XS.ifNo X1.here hx rfl (hb hby d4_4) rfl (by decide) ?_
    show Steps p.tables e below (T1.setTop (mkF m 7 #[.val (.ref r1), .val (.ref r2), .unset] [])) _
    refine XS.aloadN X1.here hx rfl (hb hby d4_7) rfl rfl ?_
    show Steps p.tables e below (T1.setTop (mkF m 8 #[.val (.ref r1), .val (.ref r2), .unset] [(.ref r2)])) _
    refine st2 _ ?_
    show Steps p.tables e below (T2.setTop (mkF m 11 #[.val (.ref r1), .val (.ref r2), .unset] [(.int (0 : Int32))])) _
    refine XS.ifYes X2.here hx rfl (pc0 := 11) (pc' := 19) rfl (hb hby d4_11) rfl (by decide) (by decide) (by decide) ?_
    show Steps p.tables e below (T2.setTop (mkF m 19 #[.val (.ref r1), .val (.ref r2), .unset] [])) _
    refine XS.aloadN X2.here hx rfl (hb hby d4_19) rfl rfl ?_
    show Steps p.tables e below (T2.setTop (mkF m 20 #[.val (.ref r1), .val (.ref r2), .unset] [(.ref r1)])) _
    refine st3 _ ?_
    show Steps p.tables e below (T3.setTop (mkF m 23 #[.val (.ref r1), .val (.ref r2), .unset] [(.int (0 : Int32))])) _
    refine XS.ifNo X3.here hx rfl (hb hby d4_23) rfl (by decide) ?_
    show Steps p.tables e below (T3.setTop (mkF m 26 #[.val (.ref r1), .val (.ref r2), .unset] [])) _
    refine XS.aloadN X3.here hx rfl (hb hby d4_26) rfl rfl ?_
    show Steps p.tables e below (T3.setTop (mkF m 27 #[.val (.ref r1), .val (.ref r2), .unset] [(.ref r2)])) _
    refine st4 _ ?_
    show Steps p.tables e below (T4.setTop (mkF m 30 #[.val (.ref r1), .val (.ref r2), .unset] [(.int (1 : Int32))])) _
    refine XS.ifNo X4.here hx rfl (hb hby d4_30) rfl (by decide) ?_
    show Steps p.tables e below (T4.setTop (mkF m 33 #[.val (.ref r1), .val (.ref r2), .unset] [])) _
    refine XS.aloadN X4.here hx rfl (hb hby d4_33) rfl rfl ?_
    show Steps p.tables e below (T4.setTop (mkF m 34 #[.val (.ref r1), .val (.ref r2), .unset] [(.ref r1)])) _
    refine st5 _ ?_
    show Steps p.tables e below (T5.setTop (mkF m 37 #[.val (.ref r1), .val (.ref r2), .unset] [(.int (1 : Int32))])) _
    refine XS.ifYes X5.here hx rfl (pc0 := 37) (pc' := 51) rfl (hb hby d4_37) rfl (by decide) (by decide) (by decide) ?_
    show Steps p.tables e below (T5.setTop (mkF m 51 #[.val (.ref r1), .val (.ref r2), .unset] [])) _
    refine XS.iconst X5.here hx rfl (hb hby d4_51) ?_
    show Steps p.tables e below (T5.setTop (mkF m 52 #[.val (.ref r1), .val (.ref r2), .unset] [(.int (0 : Int32))])) _
    refine XS.istoreN X5.here hx rfl (hb hby d4_52) rfl (l' := #[.val (.ref r1), .val (.ref r2), .val (.int (0 : Int32))]) rfl ?_
    show Steps p.tables e below (T5.setTop (mkF m 53 #[.val (.ref r1), .val (.ref r2), .val (.int (0 : Int32))] [])) _
    refine XS.goto X5.here hx rfl (pc0 := 53) (pc' := 132) rfl (hb hby d4_53) (by decide) (by decide) ?_
    show Steps p.tables e below (T5.setTop (mkF m 132 #[.val (.ref r1), .val (.ref r2), .val (.int (0 : Int32))] [])) _
    refine XS.iloadN X5.here hx rfl (hb hby d4_132) rfl ?_
    show Steps p.tables e below (T5.setTop (mkF m 133 #[.val (.ref r1), .val (.ref r2), .val (.int (0 : Int32))] [(.int (0 : Int32))])) _
    exact retN X5 hx (t := .boolean) Bd.returns (by simp) (hb hby d4_133) hr
  · show own_QP (some (.int (0 : Int32))) n0 h0 _ T5.heap _
    rw [e5]
    exact ⟨rfl, N0, rfl⟩
set_option maxRecDepth 65536 in
set_option maxHeartbeats 40000000 in
theorem rm2_8 (l : Launch) (Z : State) (a0 : Array Value) (hw : ∀ d ∈ tables_1, d.before a0 Z = true)  (h0 : Heap) (n0 : Nat) (O0 : Old Z n0 h0)  :
    MetFree l (⟨"com/example/key_warden/keywarden/engine/LockModeConflictsWithPinLaw", "row", "(I)I"⟩ : MethodName) (head1 [Jvm.Cond.code (⟨"com/example/key_warden/keywarden/engine/LockModeConflictsWithPinLaw", "row", "(I)I"⟩ : MethodName) method_4_code 1 (some .int)] ({ frames := 0, cells := 0, slots := 0, locals := 0 } : Room)) (fun a U => a = #[(.int (1 : Int32))] ∧ Z.Warmed39 U.vm ∧ U.heap = h0) (fun _ _ _ _ _ => True) (fun _ U o U' => ∃ v L, o = .returned v ∧ own_QP (some (.int (0 : Int32))) n0 h0 v U'.heap L ∧ FrameEnd U o U' L ({ frames := 0, cells := 0, slots := 0, locals := 0 } : Room).cells ({ frames := 0, cells := 0, slots := 0, locals := 0 } : Room).slots) := by
  refine MetFree.of_bodySF (plainFor_of_name pn_4) hisR ?_
  intro p e s m args below meth c s₁ Bd hml0 hP hK
  obtain ⟨rfl, hZ, hh⟩ := hP
  have hx := Bd.exec
  have hby := Bd.bytes
  have hml : c.maxLocals = 1 := hml0
  have hown : s.vm.findClass "com/example/key_warden/keywarden/engine/LockModeConflictsWithPinLaw" = some m.cls := findClass_of_methodNamed Bd.named
  have hnm := (name_of_methodNamed Bd.named Bd.method).1
  have X0 : Stand p l e ({ frames := 0, cells := 0, slots := 0, locals := 0 } : Room) s m #[(.int (1 : Int32))] below meth c s₁ [] 0 0 := Stand.of_body Bd
  have e0 : s₁.heap = h0 := by rw [← hh, Bd.state]; rfl
  have N0 := Fr.nil n0
  have pre0 : ∀ t, Steps p.tables e below (s₁.setTop (mkF m 0 #[.val (.int (1 : Int32))] [])) t → Steps p.tables e below (s₁.setTop (entryFrame m #[(.int (1 : Int32))] 1)) t := fun t k => castTop (ef_2_I m (1 : Int32)) k
  obtain ⟨fs, hr, hrun, hended, hW, hsame⟩ := X0.leave (v := (some (.int (0 : Int32)))) (fun h => by rw [Bd.returns] at h; cases h)
  refine ⟨_, _, pre0 _ ?_, hrun, hended, _, _, rfl, ?_, ⟨_, rfl⟩, hW, hsame.mono (by decide) (by decide)⟩
  · show Steps p.tables e below (s₁.setTop (mkF m 0 #[.val (.int (1 : Int32))] [])) _
    refine XS.iloadN X0.here hx rfl (hb hby d2_0) rfl ?_
    show Steps p.tables e below (s₁.setTop (mkF m 1 #[.val (.int (1 : Int32))] [(.int (1 : Int32))])) _
    refine XS.iconst X0.here hx rfl (hb hby d2_1) ?_
    show Steps p.tables e below (s₁.setTop (mkF m 2 #[.val (.int (1 : Int32))] [(.int (2 : Int32)), (.int (1 : Int32))])) _
    refine XS.icmpNo X0.here hx rfl (hb hby d2_2) rfl (by decide) ?_
    show Steps p.tables e below (s₁.setTop (mkF m 5 #[.val (.int (1 : Int32))] [])) _
    refine XS.iloadN X0.here hx rfl (hb hby d2_5) rfl ?_
    show Steps p.tables e below (s₁.setTop (mkF m 6 #[.val (.int (1 : Int32))] [(.int (1 : Int32))])) _
    refine XS.iconst X0.here hx rfl (hb hby d2_6) ?_
    show Steps p.tables e below (s₁.setTop (mkF m 7 #[.val (.int (1 : Int32))] [(.int (3 : Int32)), (.int (1 : Int32))])) _
    refine XS.icmpYes X0.here hx rfl (pc0 := 7) (pc' := 13) rfl (hb hby d2_7) rfl (by decide) (by decide) (by decide) ?_
    show Steps p.tables e below (s₁.setTop (mkF m 13 #[.val (.int (1 : Int32))] [])) _
    refine XS.iloadN X0.here hx rfl (hb hby d2_13) rfl ?_
    show Steps p.tables e below (s₁.setTop (mkF m 14 #[.val (.int (1 : Int32))] [(.int (1 : Int32))])) _
    refine XS.iconst X0.here hx rfl (hb hby d2_14) ?_
    show Steps p.tables e below (s₁.setTop (mkF m 15 #[.val (.int (1 : Int32))] [(.int (5 : Int32)), (.int (1 : Int32))])) _
    refine XS.icmpNo X0.here hx rfl (hb hby d2_15) rfl (by decide) ?_
    show Steps p.tables e below (s₁.setTop (mkF m 18 #[.val (.int (1 : Int32))] [])) _
    refine XS.iloadN X0.here hx rfl (hb hby d2_18) rfl ?_
    show Steps p.tables e below (s₁.setTop (mkF m 19 #[.val (.int (1 : Int32))] [(.int (1 : Int32))])) _
    refine XS.bipush X0.here hx rfl (hb hby d2_19) ?_
    show Steps p.tables e below (s₁.setTop (mkF m 21 #[.val (.int (1 : Int32))] [(.int (6 : Int32)), (.int (1 : Int32))])) _
    refine XS.icmpYes X0.here hx rfl (pc0 := 21) (pc' := 27) rfl (hb hby d2_21) rfl (by decide) (by decide) (by decide) ?_
    show Steps p.tables e below (s₁.setTop (mkF m 27 #[.val (.int (1 : Int32))] [])) _
    refine XS.iloadN X0.here hx rfl (hb hby d2_27) rfl ?_
    show Steps p.tables e below (s₁.setTop (mkF m 28 #[.val (.int (1 : Int32))] [(.int (1 : Int32))])) _
    refine XS.bipush X0.here hx rfl (hb hby d2_28) ?_
    show Steps p.tables e below (s₁.setTop (mkF m 30 #[.val (.int (1 : Int32))] [(.int (8 : Int32)), (.int (1 : Int32))])) _
    refine XS.icmpYes X0.here hx rfl (pc0 := 30) (pc' := 37) rfl (hb hby d2_30) rfl (by decide) (by decide) (by decide) ?_
    show Steps p.tables e below (s₁.setTop (mkF m 37 #[.val (.int (1 : Int32))] [])) _
    refine XS.iloadN X0.here hx rfl (hb hby d2_37) rfl ?_
    show Steps p.tables e below (s₁.setTop (mkF m 38 #[.val (.int (1 : Int32))] [(.int (1 : Int32))])) _
    refine XS.bipush X0.here hx rfl (hb hby d2_38) ?_
    show Steps p.tables e below (s₁.setTop (mkF m 40 #[.val (.int (1 : Int32))] [(.int (9 : Int32)), (.int (1 : Int32))])) _
    refine XS.icmpYes X0.here hx rfl (pc0 := 40) (pc' := 47) rfl (hb hby d2_40) rfl (by decide) (by decide) (by decide) ?_
    show Steps p.tables e below (s₁.setTop (mkF m 47 #[.val (.int (1 : Int32))] [])) _
    refine XS.iconst X0.here hx rfl (hb hby d2_47) ?_
    show Steps p.tables e below (s₁.setTop (mkF m 48 #[.val (.int (1 : Int32))] [(.int (0 : Int32))])) _
    exact retI X0 hx Bd.returns (hb hby d2_48) hr
  · show own_QP (some (.int (0 : Int32))) n0 h0 _ s₁.heap _
    rw [e0]
    exact ⟨rfl, N0, rfl⟩
set_option maxRecDepth 65536 in
set_option maxHeartbeats 40000000 in
theorem rm2_9 (l : Launch) (Z : State) (a0 : Array Value) (hw : ∀ d ∈ tables_1, d.before a0 Z = true)  (h0 : Heap) (n0 : Nat) (O0 : Old Z n0 h0)  :
    MetFree l (⟨"com/example/key_warden/keywarden/engine/LockModeConflictsWithPinLaw", "row", "(I)I"⟩ : MethodName) (head1 [Jvm.Cond.code (⟨"com/example/key_warden/keywarden/engine/LockModeConflictsWithPinLaw", "row", "(I)I"⟩ : MethodName) method_4_code 1 (some .int)] ({ frames := 0, cells := 0, slots := 0, locals := 0 } : Room)) (fun a U => a = #[(.int (9 : Int32))] ∧ Z.Warmed39 U.vm ∧ U.heap = h0) (fun _ _ _ _ _ => True) (fun _ U o U' => ∃ v L, o = .returned v ∧ own_QP (some (.int (512 : Int32))) n0 h0 v U'.heap L ∧ FrameEnd U o U' L ({ frames := 0, cells := 0, slots := 0, locals := 0 } : Room).cells ({ frames := 0, cells := 0, slots := 0, locals := 0 } : Room).slots) := by
  refine MetFree.of_bodySF (plainFor_of_name pn_4) hisR ?_
  intro p e s m args below meth c s₁ Bd hml0 hP hK
  obtain ⟨rfl, hZ, hh⟩ := hP
  have hx := Bd.exec
  have hby := Bd.bytes
  have hml : c.maxLocals = 1 := hml0
  have hown : s.vm.findClass "com/example/key_warden/keywarden/engine/LockModeConflictsWithPinLaw" = some m.cls := findClass_of_methodNamed Bd.named
  have hnm := (name_of_methodNamed Bd.named Bd.method).1
  have X0 : Stand p l e ({ frames := 0, cells := 0, slots := 0, locals := 0 } : Room) s m #[(.int (9 : Int32))] below meth c s₁ [] 0 0 := Stand.of_body Bd
  have e0 : s₁.heap = h0 := by rw [← hh, Bd.state]; rfl
  have N0 := Fr.nil n0
  have pre0 : ∀ t, Steps p.tables e below (s₁.setTop (mkF m 0 #[.val (.int (9 : Int32))] [])) t → Steps p.tables e below (s₁.setTop (entryFrame m #[(.int (9 : Int32))] 1)) t := fun t k => castTop (ef_2_I m (9 : Int32)) k
  obtain ⟨fs, hr, hrun, hended, hW, hsame⟩ := X0.leave (v := (some (.int (512 : Int32)))) (fun h => by rw [Bd.returns] at h; cases h)
  refine ⟨_, _, pre0 _ ?_, hrun, hended, _, _, rfl, ?_, ⟨_, rfl⟩, hW, hsame.mono (by decide) (by decide)⟩
  · show Steps p.tables e below (s₁.setTop (mkF m 0 #[.val (.int (9 : Int32))] [])) _
    refine XS.iloadN X0.here hx rfl (hb hby d2_0) rfl ?_
    show Steps p.tables e below (s₁.setTop (mkF m 1 #[.val (.int (9 : Int32))] [(.int (9 : Int32))])) _
    refine XS.iconst X0.here hx rfl (hb hby d2_1) ?_
    show Steps p.tables e below (s₁.setTop (mkF m 2 #[.val (.int (9 : Int32))] [(.int (2 : Int32)), (.int (9 : Int32))])) _
    refine XS.icmpNo X0.here hx rfl (hb hby d2_2) rfl (by decide) ?_
    show Steps p.tables e below (s₁.setTop (mkF m 5 #[.val (.int (9 : Int32))] [])) _
    refine XS.iloadN X0.here hx rfl (hb hby d2_5) rfl ?_
    show Steps p.tables e below (s₁.setTop (mkF m 6 #[.val (.int (9 : Int32))] [(.int (9 : Int32))])) _
    refine XS.iconst X0.here hx rfl (hb hby d2_6) ?_
    show Steps p.tables e below (s₁.setTop (mkF m 7 #[.val (.int (9 : Int32))] [(.int (3 : Int32)), (.int (9 : Int32))])) _
    refine XS.icmpYes X0.here hx rfl (pc0 := 7) (pc' := 13) rfl (hb hby d2_7) rfl (by decide) (by decide) (by decide) ?_
    show Steps p.tables e below (s₁.setTop (mkF m 13 #[.val (.int (9 : Int32))] [])) _
    refine XS.iloadN X0.here hx rfl (hb hby d2_13) rfl ?_
    show Steps p.tables e below (s₁.setTop (mkF m 14 #[.val (.int (9 : Int32))] [(.int (9 : Int32))])) _
    refine XS.iconst X0.here hx rfl (hb hby d2_14) ?_
    show Steps p.tables e below (s₁.setTop (mkF m 15 #[.val (.int (9 : Int32))] [(.int (5 : Int32)), (.int (9 : Int32))])) _
    refine XS.icmpNo X0.here hx rfl (hb hby d2_15) rfl (by decide) ?_
    show Steps p.tables e below (s₁.setTop (mkF m 18 #[.val (.int (9 : Int32))] [])) _
    refine XS.iloadN X0.here hx rfl (hb hby d2_18) rfl ?_
    show Steps p.tables e below (s₁.setTop (mkF m 19 #[.val (.int (9 : Int32))] [(.int (9 : Int32))])) _
    refine XS.bipush X0.here hx rfl (hb hby d2_19) ?_
    show Steps p.tables e below (s₁.setTop (mkF m 21 #[.val (.int (9 : Int32))] [(.int (6 : Int32)), (.int (9 : Int32))])) _
    refine XS.icmpYes X0.here hx rfl (pc0 := 21) (pc' := 27) rfl (hb hby d2_21) rfl (by decide) (by decide) (by decide) ?_
    show Steps p.tables e below (s₁.setTop (mkF m 27 #[.val (.int (9 : Int32))] [])) _
    refine XS.iloadN X0.here hx rfl (hb hby d2_27) rfl ?_
    show Steps p.tables e below (s₁.setTop (mkF m 28 #[.val (.int (9 : Int32))] [(.int (9 : Int32))])) _
    refine XS.bipush X0.here hx rfl (hb hby d2_28) ?_
    show Steps p.tables e below (s₁.setTop (mkF m 30 #[.val (.int (9 : Int32))] [(.int (8 : Int32)), (.int (9 : Int32))])) _
    refine XS.icmpYes X0.here hx rfl (pc0 := 30) (pc' := 37) rfl (hb hby d2_30) rfl (by decide) (by decide) (by decide) ?_
    show Steps p.tables e below (s₁.setTop (mkF m 37 #[.val (.int (9 : Int32))] [])) _
    refine XS.iloadN X0.here hx rfl (hb hby d2_37) rfl ?_
    show Steps p.tables e below (s₁.setTop (mkF m 38 #[.val (.int (9 : Int32))] [(.int (9 : Int32))])) _
    refine XS.bipush X0.here hx rfl (hb hby d2_38) ?_
    show Steps p.tables e below (s₁.setTop (mkF m 40 #[.val (.int (9 : Int32))] [(.int (9 : Int32)), (.int (9 : Int32))])) _
    refine XS.icmpNo X0.here hx rfl (hb hby d2_40) rfl (by decide) ?_
    show Steps p.tables e below (s₁.setTop (mkF m 43 #[.val (.int (9 : Int32))] [])) _
    refine XS.sipush X0.here hx rfl (hb hby d2_43) ?_
    show Steps p.tables e below (s₁.setTop (mkF m 46 #[.val (.int (9 : Int32))] [(.int (512 : Int32))])) _
    exact retI X0 hx Bd.returns (hb hby d2_46) hr
  · show own_QP (some (.int (512 : Int32))) n0 h0 _ s₁.heap _
    rw [e0]
    exact ⟨rfl, N0, rfl⟩
set_option maxRecDepth 65536 in
set_option maxHeartbeats 40000000 in
theorem rm4_15 (l : Launch) (Z : State) (a0 : Array Value) (hw : ∀ d ∈ tables_1, d.before a0 Z = true) (r1 : Addr) (r2 : Addr) (h0 : Heap) (n0 : Nat) (O0 : Old Z n0 h0) (P1 : Fld Z h0 r1 "com/example/key_warden/keywarden/engine/LockMode" "intention" "Z" (.int (0 : Int32))) (P2 : Fld Z h0 r1 "com/example/key_warden/keywarden/engine/LockMode" "keyLock" "Z" (.int (1 : Int32))) (P3 : Fld Z h0 r2 "com/example/key_warden/keywarden/engine/LockMode" "intention" "Z" (.int (1 : Int32))) :
    MetFree l (⟨"com/example/key_warden/keywarden/engine/LockMode", "conflictsWith", "(Lcom/example/key_warden/keywarden/engine/LockMode;)Z"⟩ : MethodName) (head1 [Jvm.Cond.code (⟨"com/example/key_warden/keywarden/engine/LockMode", "conflictsWith", "(Lcom/example/key_warden/keywarden/engine/LockMode;)Z"⟩ : MethodName) prog_26_method_6_code 3 (some .boolean)] ({ frames := 0, cells := 0, slots := 0, locals := 0 } : Room)) (fun a U => a = #[(.ref r1), (.ref r2)] ∧ Z.Warmed39 U.vm ∧ U.heap = h0) (fun _ _ _ _ _ => True) (fun _ U o U' => ∃ v L, o = .returned v ∧ own_QP (some (.int (0 : Int32))) n0 h0 v U'.heap L ∧ FrameEnd U o U' L ({ frames := 0, cells := 0, slots := 0, locals := 0 } : Room).cells ({ frames := 0, cells := 0, slots := 0, locals := 0 } : Room).slots) := by
  refine MetFree.of_bodySF (plainFor_of_name pn_9) hisR ?_
  intro p e s m args below meth c s₁ Bd hml0 hP hK
  obtain ⟨rfl, hZ, hh⟩ := hP
  have hx := Bd.exec
  have hby := Bd.bytes
  have hml : c.maxLocals = 3 := hml0
  have hown : s.vm.findClass "com/example/key_warden/keywarden/engine/LockMode" = some m.cls := findClass_of_methodNamed Bd.named
  have hnm := (name_of_methodNamed Bd.named Bd.method).1
  have X0 : Stand p l e ({ frames := 0, cells := 0, slots := 0, locals := 0 } : Room) s m #[(.ref r1), (.ref r2)] below meth c s₁ [] 0 0 := Stand.of_body Bd
  have e0 : s₁.heap = h0 := by rw [← hh, Bd.state]; rfl
  have N0 := Fr.nil n0
  have pre0 : ∀ t, Steps p.tables e below (s₁.setTop (mkF m 0 #[.val (.ref r1), .val (.ref r2), .unset] [])) t → Steps p.tables e below (s₁.setTop (entryFrame m #[(.ref r1), (.ref r2)] 3)) t := fun t k => castTop (ef_4_RR m r1 r2) k
  obtain ⟨T1, X1, e1, st1⟩ := getF X0 hx hZ hown (host := "") (Or.inl (hw _ (List.mem_of_getElem? (i := 21) rfl))) Via.refl e0 P1 (g := (mkF m 1 #[.val (.ref r1), .val (.ref r2), .unset] [(.ref r1)])) rfl rfl (hb hby d4_1)
  obtain ⟨T2, X2, e2, st2⟩ := getF X1 hx hZ hown (host := "") (Or.inl (hw _ (List.mem_of_getElem? (i := 23) rfl))) Via.refl e1 P2 (g := (mkF m 20 #[.val (.ref r1), .val (.ref r2), .unset] [(.ref r1)])) rfl rfl (hb hby d4_20)
  obtain ⟨T3, X3, e3, st3⟩ := getF X2 hx hZ hown (host := "") (Or.inl (hw _ (List.mem_of_getElem? (i := 21) rfl))) Via.refl e2 P1 (g := (mkF m 34 #[.val (.ref r1), .val (.ref r2), .unset] [(.ref r1)])) rfl rfl (hb hby d4_34)
  obtain ⟨T4, X4, e4, st4⟩ := getF X3 hx hZ hown (host := "") (Or.inl (hw _ (List.mem_of_getElem? (i := 21) rfl))) Via.refl e3 P3 (g := (mkF m 41 #[.val (.ref r1), .val (.ref r2), .unset] [(.ref r2)])) rfl rfl (hb hby d4_41)
  obtain ⟨fs, hr, hrun, hended, hW, hsame⟩ := X4.leave (v := (some (.int (0 : Int32)))) (fun h => by rw [Bd.returns] at h; cases h)
  refine ⟨_, _, pre0 _ ?_, hrun, hended, _, _, rfl, ?_, ⟨_, rfl⟩, hW, hsame.mono (by decide) (by decide)⟩
  · show Steps p.tables e below (s₁.setTop (mkF m 0 #[.val (.ref r1), .val (.ref r2), .unset] [])) _
    refine XS.aloadN X0.here hx rfl (hb hby d4_0) rfl rfl ?_
    show Steps p.tables e below (s₁.setTop (mkF m 1 #[.val (.ref r1), .val (.ref r2), .unset] [(.ref r1)])) _
    refine st1 _ ?_
    show Steps p.tables e below (T1.setTop (mkF m 4 #[.val (.ref r1), .val (.ref r2), .unset] [(.int (0 : Int32))])) _
    refine XS.ifYes X1.here hx rfl (pc0 := 4) (pc' := 19) rfl (hb hby d4_4) rfl (by decide) (by decide) (by decide) ?_
    show Steps p.tables e below (T1.setTop (mkF m 19 #[.val (.ref r1), .val (.ref r2), .unset] [])) _
    refine XS.aloadN X1.here hx rfl (hb hby d4_19) rfl rfl ?_
    show Steps p.tables e below (T1.setTop (mkF m 20 #[.val (.ref r1), .val (.ref r2), .unset] [(.ref r1)])) _
    refine st2 _ ?_
    show Steps p.tables e below (T2.setTop (mkF m 23 #[.val (.ref r1), .val (.ref r2), .unset] [(.int (1 : Int32))])) _
    refine XS.ifYes X2.here hx rfl (pc0 := 23) (pc' := 33) rfl (hb hby d4_23) rfl (by decide) (by decide) (by decide) ?_
    show Steps p.tables e below (T2.setTop (mkF m 33 #[.val (.ref r1), .val (.ref r2), .unset] [])) _
    refine XS.aloadN X2.here hx rfl (hb hby d4_33) rfl rfl ?_
    show Steps p.tables e below (T2.setTop (mkF m 34 #[.val (.ref r1), .val (.ref r2), .unset] [(.ref r1)])) _
    refine st3 _ ?_
    show Steps p.tables e below (T3.setTop (mkF m 37 #[.val (.ref r1), .val (.ref r2), .unset] [(.int (0 : Int32))])) _
    refine XS.ifNo X3.here hx rfl (hb hby d4_37) rfl (by decide) ?_
    show Steps p.tables e below (T3.setTop (mkF m 40 #[.val (.ref r1), .val (.ref r2), .unset] [])) _
    refine XS.aloadN X3.here hx rfl (hb hby d4_40) rfl rfl ?_
    show Steps p.tables e below (T3.setTop (mkF m 41 #[.val (.ref r1), .val (.ref r2), .unset] [(.ref r2)])) _
    refine st4 _ ?_
    show Steps p.tables e below (T4.setTop (mkF m 44 #[.val (.ref r1), .val (.ref r2), .unset] [(.int (1 : Int32))])) _
    refine XS.ifYes X4.here hx rfl (pc0 := 44) (pc' := 51) rfl (hb hby d4_44) rfl (by decide) (by decide) (by decide) ?_
    show Steps p.tables e below (T4.setTop (mkF m 51 #[.val (.ref r1), .val (.ref r2), .unset] [])) _
    refine XS.iconst X4.here hx rfl (hb hby d4_51) ?_
    show Steps p.tables e below (T4.setTop (mkF m 52 #[.val (.ref r1), .val (.ref r2), .unset] [(.int (0 : Int32))])) _
    refine XS.istoreN X4.here hx rfl (hb hby d4_52) rfl (l' := #[.val (.ref r1), .val (.ref r2), .val (.int (0 : Int32))]) rfl ?_
    show Steps p.tables e below (T4.setTop (mkF m 53 #[.val (.ref r1), .val (.ref r2), .val (.int (0 : Int32))] [])) _
    refine XS.goto X4.here hx rfl (pc0 := 53) (pc' := 132) rfl (hb hby d4_53) (by decide) (by decide) ?_
    show Steps p.tables e below (T4.setTop (mkF m 132 #[.val (.ref r1), .val (.ref r2), .val (.int (0 : Int32))] [])) _
    refine XS.iloadN X4.here hx rfl (hb hby d4_132) rfl ?_
    show Steps p.tables e below (T4.setTop (mkF m 133 #[.val (.ref r1), .val (.ref r2), .val (.int (0 : Int32))] [(.int (0 : Int32))])) _
    exact retN X4 hx (t := .boolean) Bd.returns (by simp) (hb hby d4_133) hr
  · show own_QP (some (.int (0 : Int32))) n0 h0 _ T4.heap _
    rw [e4]
    exact ⟨rfl, N0, rfl⟩
set_option maxRecDepth 65536 in
set_option maxHeartbeats 40000000 in
theorem rm4_16 (l : Launch) (Z : State) (a0 : Array Value) (hw : ∀ d ∈ tables_1, d.before a0 Z = true) (r1 : Addr) (h0 : Heap) (n0 : Nat) (O0 : Old Z n0 h0) (P1 : Fld Z h0 r1 "com/example/key_warden/keywarden/engine/LockMode" "intention" "Z" (.int (0 : Int32))) (P2 : Fld Z h0 r1 "com/example/key_warden/keywarden/engine/LockMode" "keyLock" "Z" (.int (1 : Int32))) :
    MetFree l (⟨"com/example/key_warden/keywarden/engine/LockMode", "conflictsWith", "(Lcom/example/key_warden/keywarden/engine/LockMode;)Z"⟩ : MethodName) (head1 [Jvm.Cond.code (⟨"com/example/key_warden/keywarden/engine/LockMode", "conflictsWith", "(Lcom/example/key_warden/keywarden/engine/LockMode;)Z"⟩ : MethodName) prog_26_method_6_code 3 (some .boolean)] ({ frames := 0, cells := 0, slots := 0, locals := 0 } : Room)) (fun a U => a = #[(.ref r1), (.ref r1)] ∧ Z.Warmed39 U.vm ∧ U.heap = h0) (fun _ _ _ _ _ => True) (fun _ U o U' => ∃ v L, o = .returned v ∧ own_QP (some (.int (1 : Int32))) n0 h0 v U'.heap L ∧ FrameEnd U o U' L ({ frames := 0, cells := 0, slots := 0, locals := 0 } : Room).cells ({ frames := 0, cells := 0, slots := 0, locals := 0 } : Room).slots) := by
  refine MetFree.of_bodySF (plainFor_of_name pn_9) hisR ?_
  intro p e s m args below meth c s₁ Bd hml0 hP hK
  obtain ⟨rfl, hZ, hh⟩ := hP
  have hx := Bd.exec
  have hby := Bd.bytes
  have hml : c.maxLocals = 3 := hml0
  have hown : s.vm.findClass "com/example/key_warden/keywarden/engine/LockMode" = some m.cls := findClass_of_methodNamed Bd.named
  have hnm := (name_of_methodNamed Bd.named Bd.method).1
  have X0 : Stand p l e ({ frames := 0, cells := 0, slots := 0, locals := 0 } : Room) s m #[(.ref r1), (.ref r1)] below meth c s₁ [] 0 0 := Stand.of_body Bd
  have e0 : s₁.heap = h0 := by rw [← hh, Bd.state]; rfl
  have N0 := Fr.nil n0
  have pre0 : ∀ t, Steps p.tables e below (s₁.setTop (mkF m 0 #[.val (.ref r1), .val (.ref r1), .unset] [])) t → Steps p.tables e below (s₁.setTop (entryFrame m #[(.ref r1), (.ref r1)] 3)) t := fun t k => castTop (ef_4_RR m r1 r1) k
  obtain ⟨T1, X1, e1, st1⟩ := getF X0 hx hZ hown (host := "") (Or.inl (hw _ (List.mem_of_getElem? (i := 21) rfl))) Via.refl e0 P1 (g := (mkF m 1 #[.val (.ref r1), .val (.ref r1), .unset] [(.ref r1)])) rfl rfl (hb hby d4_1)
  obtain ⟨T2, X2, e2, st2⟩ := getF X1 hx hZ hown (host := "") (Or.inl (hw _ (List.mem_of_getElem? (i := 23) rfl))) Via.refl e1 P2 (g := (mkF m 20 #[.val (.ref r1), .val (.ref r1), .unset] [(.ref r1)])) rfl rfl (hb hby d4_20)
  obtain ⟨T3, X3, e3, st3⟩ := getF X2 hx hZ hown (host := "") (Or.inl (hw _ (List.mem_of_getElem? (i := 21) rfl))) Via.refl e2 P1 (g := (mkF m 34 #[.val (.ref r1), .val (.ref r1), .unset] [(.ref r1)])) rfl rfl (hb hby d4_34)
  obtain ⟨T4, X4, e4, st4⟩ := getF X3 hx hZ hown (host := "") (Or.inl (hw _ (List.mem_of_getElem? (i := 21) rfl))) Via.refl e3 P1 (g := (mkF m 41 #[.val (.ref r1), .val (.ref r1), .unset] [(.ref r1)])) rfl rfl (hb hby d4_41)
  obtain ⟨fs, hr, hrun, hended, hW, hsame⟩ := X4.leave (v := (some (.int (1 : Int32)))) (fun h => by rw [Bd.returns] at h; cases h)
  refine ⟨_, _, pre0 _ ?_, hrun, hended, _, _, rfl, ?_, ⟨_, rfl⟩, hW, hsame.mono (by decide) (by decide)⟩
  · show Steps p.tables e below (s₁.setTop (mkF m 0 #[.val (.ref r1), .val (.ref r1), .unset] [])) _
    refine XS.aloadN X0.here hx rfl (hb hby d4_0) rfl rfl ?_
    show Steps p.tables e below (s₁.setTop (mkF m 1 #[.val (.ref r1), .val (.ref r1), .unset] [(.ref r1)])) _
    refine st1 _ ?_
    show Steps p.tables e below (T1.setTop (mkF m 4 #[.val (.ref r1), .val (.ref r1), .unset] [(.int (0 : Int32))])) _
    refine XS.ifYes X1.here hx rfl (pc0 := 4) (pc' := 19) rfl (hb hby d4_4) rfl (by decide) (by decide) (by decide) ?_
    show Steps p.tables e below (T1.setTop (mkF m 19 #[.val (.ref r1), .val (.ref r1), .unset] [])) _
    refine XS.aloadN X1.here hx rfl (hb hby d4_19) rfl rfl ?_
    show Steps p.tables e below (T1.setTop (mkF m 20 #[.val (.ref r1), .val (.ref r1), .unset] [(.ref r1)])) _
    refine st2 _ ?_
    show Steps p.tables e below (T2.setTop (mkF m 23 #[.val (.ref r1), .val (.ref r1), .unset] [(.int (1 : Int32))])) _
    refine XS.ifYes X2.here hx rfl (pc0 := 23) (pc' := 33) rfl (hb hby d4_23) rfl (by decide) (by decide) (by decide) ?_
    show Steps p.tables e below (T2.setTop (mkF m 33 #[.val (.ref r1), .val (.ref r1), .unset] [])) _
    refine XS.aloadN X2.here hx rfl (hb hby d4_33) rfl rfl ?_
    show Steps p.tables e below (T2.setTop (mkF m 34 #[.val (.ref r1), .val (.ref r1), .unset] [(.ref r1)])) _
    refine st3 _ ?_
    show Steps p.tables e below (T3.setTop (mkF m 37 #[.val (.ref r1), .val (.ref r1), .unset] [(.int (0 : Int32))])) _
    refine XS.ifNo X3.here hx rfl (hb hby d4_37) rfl (by decide) ?_
    show Steps p.tables e below (T3.setTop (mkF m 40 #[.val (.ref r1), .val (.ref r1), .unset] [])) _
    refine XS.aloadN X3.here hx rfl (hb hby d4_40) rfl rfl ?_
    show Steps p.tables e below (T3.setTop (mkF m 41 #[.val (.ref r1), .val (.ref r1), .unset] [(.ref r1)])) _
    refine st4 _ ?_
    show Steps p.tables e below (T4.setTop (mkF m 44 #[.val (.ref r1), .val (.ref r1), .unset] [(.int (0 : Int32))])) _
    refine XS.ifNo X4.here hx rfl (hb hby d4_44) rfl (by decide) ?_
    show Steps p.tables e below (T4.setTop (mkF m 47 #[.val (.ref r1), .val (.ref r1), .unset] [])) _
    refine XS.iconst X4.here hx rfl (hb hby d4_47) ?_
    show Steps p.tables e below (T4.setTop (mkF m 48 #[.val (.ref r1), .val (.ref r1), .unset] [(.int (1 : Int32))])) _
    refine XS.goto X4.here hx rfl (pc0 := 48) (pc' := 52) rfl (hb hby d4_48) (by decide) (by decide) ?_
    show Steps p.tables e below (T4.setTop (mkF m 52 #[.val (.ref r1), .val (.ref r1), .unset] [(.int (1 : Int32))])) _
    refine XS.istoreN X4.here hx rfl (hb hby d4_52) rfl (l' := #[.val (.ref r1), .val (.ref r1), .val (.int (1 : Int32))]) rfl ?_
    show Steps p.tables e below (T4.setTop (mkF m 53 #[.val (.ref r1), .val (.ref r1), .val (.int (1 : Int32))] [])) _
    refine XS.goto X4.here hx rfl (pc0 := 53) (pc' := 132) rfl (hb hby d4_53) (by decide) (by decide) ?_
    show Steps p.tables e below (T4.setTop (mkF m 132 #[.val (.ref r1), .val (.ref r1), .val (.int (1 : Int32))] [])) _
    refine XS.iloadN X4.here hx rfl (hb hby d4_132) rfl ?_
    show Steps p.tables e below (T4.setTop (mkF m 133 #[.val (.ref r1), .val (.ref r1), .val (.int (1 : Int32))] [(.int (1 : Int32))])) _
    exact retN X4 hx (t := .boolean) Bd.returns (by simp) (hb hby d4_133) hr
  · show own_QP (some (.int (1 : Int32))) n0 h0 _ T4.heap _
    rw [e4]
    exact ⟨rfl, N0, rfl⟩
set_option maxRecDepth 65536 in
set_option maxHeartbeats 40000000 in
theorem comes_1 {Post : Tables → Env → Array Value → State → Outcome → State → Prop} (hpost : ∀ tb e args s v u, (limb_1_1.after args s (.returned v) u = true ∧ limb_1_2.after args s (.returned v) u = true ∧ True) → FrameEnd s (.returned v) u (Jvm.fieldLocs frame_1_writes args s ++ Jvm.arrayLocs frame_1_arrays args s ++ Jvm.staticLocs frame_1_statics s) 0 0 → Post tb e args s (.returned v) u) :
    ArmFor flags0 classFile x code maxLocals ret World_1 tables_1 room_1 Calls_1 rest_1 Pre_1 Post := by
  intro l hfl _ _ p e ha hc hk s m args below hf hA hF happ hP
  obtain ⟨hcalls, hrest, hpre⟩ := hP
  obtain ⟨-, -, -, hnamed, -, -, -, hat⟩ := (Spec.applies_iff hf).mp happ
  obtain ⟨hg, hn⟩ := and_e (Cond.before_iff.mp (show (Jvm.Cond.and given_1 narrow_1).before args s = true from hpre))
  obtain ⟨g1, g2⟩ := and_e hg
  obtain ⟨g3, g4⟩ := and_e g2
  obtain ⟨g5, g6⟩ := and_e g4
  obtain ⟨v0, v1, v2, rfl⟩ : ∃ v0 v1 v2 : Value, args = #[v0, v1, v2] := by
    have hs : args.size = 3 := by simpa [Cond.value, given_1] using g1
    obtain ⟨L⟩ := args
    match L, hs with
    | [v0, v1, v2], _ => exact ⟨v0, v1, v2, rfl⟩
  have hw := fun d (hd : d ∈ tables_1) => atoms_spec (ws := Jvm.Cond.code x code maxLocals ret :: tables_1) hat d (List.mem_cons_of_mem _ hd)
  have hfit : Fit s := fun {y c} hc i hi => by
    obtain ⟨ha, rfl⟩ := Array.getElem?_eq_some_iff.mp hc
    have q := List.all_eq_true.mp ((Array.all_eq_true_iff_forall_mem.mp hF) _ (Array.getElem_mem ha)) i (List.mem_range.mpr hi)
    simpa [Array.getElem?_eq_getElem hi] using q
  obtain ⟨p1, ei0⟩ := is_v g3
  obtain rfl : v0 = (.int p1) := Option.some.inj ei0
  obtain ⟨p2, ei1⟩ := is_v g5
  obtain rfl : v1 = (.int p2) := Option.some.inj ei1
  obtain ⟨p3, ei2⟩ := is_v g6
  obtain rfl : v2 = (.int p3) := Option.some.inj ei2
  obtain ⟨c1, c2⟩ := and_e hn
  obtain ⟨c3, c4⟩ := and_e c2
  obtain ⟨c5, c6⟩ := and_e c4
  obtain ⟨c7, c8⟩ := and_e c6
  obtain ⟨c9, c10⟩ := and_e c8
  obtain ⟨c11, c12⟩ := and_e c10
  obtain ⟨c13, c14⟩ := and_e c12
  obtain ⟨c15, c16⟩ := and_e c14
  obtain ⟨c17, c18⟩ := and_e c16
  obtain ⟨c19, c20⟩ := and_e c18
  obtain ⟨c21, c22⟩ := and_e c20
  obtain ⟨c23, c24⟩ := and_e c22
  obtain ⟨c25, c26⟩ := and_e c24
  obtain ⟨c27, c28⟩ := and_e c26
  obtain ⟨c29, c30⟩ := and_e c28
  obtain ⟨c31, c32⟩ := and_e c30
  obtain ⟨c33, c34⟩ := and_e c32
  obtain ⟨c35, c36⟩ := and_e c34
  obtain ⟨c37, c38⟩ := and_e c36
  obtain ⟨c39, c40⟩ := and_e c38
  obtain ⟨c41, c42⟩ := and_e c40
  obtain ⟨c43, c44⟩ := and_e c42
  obtain ⟨c45, c46⟩ := and_e c44
  obtain ⟨c47, c48⟩ := and_e c46
  obtain ⟨c49, c50⟩ := and_e c48
  obtain ⟨c51, c52⟩ := and_e c50
  obtain ⟨c53, c54⟩ := and_e c52
  obtain ⟨c55, c56⟩ := and_e c54
  obtain ⟨c57, c58⟩ := and_e c56
  obtain ⟨c59, c60⟩ := and_e c58
  obtain ⟨c61, c62⟩ := and_e c60
  obtain ⟨c63, c64⟩ := and_e c62
  obtain ⟨c65, c66⟩ := and_e c64
  obtain ⟨c67, c68⟩ := and_e c66
  obtain ⟨c69, c70⟩ := and_e c68
  obtain ⟨c71, c72⟩ := and_e c70
  obtain ⟨c73, c74⟩ := and_e c72
  obtain ⟨c75, c76⟩ := and_e c74
  obtain ⟨c77, c78⟩ := and_e c76
  obtain ⟨c79, c80⟩ := and_e c78
  obtain ⟨c81, c82⟩ := and_e c80
  obtain ⟨c83, c84⟩ := and_e c82
  obtain ⟨c85, c86⟩ := and_e c84
  obtain ⟨c87, c88⟩ := and_e c86
  obtain ⟨c89, c90⟩ := and_e c88
  obtain ⟨c91, c92⟩ := and_e c90
  obtain ⟨c93, c94⟩ := and_e c92
  obtain ⟨c95, c96⟩ := and_e c94
  obtain ⟨c97, c98⟩ := and_e c96
  obtain ⟨c99, c100⟩ := and_e c98
  obtain ⟨c101, c102⟩ := and_e c100
  obtain ⟨c103, c104⟩ := and_e c102
  obtain ⟨c105, c106⟩ := and_e c104
  obtain ⟨c107, c108⟩ := and_e c106
  obtain ⟨c109, c110⟩ := and_e c108
  obtain ⟨c111, c112⟩ := and_e c110
  obtain ⟨c113, c114⟩ := and_e c112
  obtain ⟨c115, c116⟩ := and_e c114
  obtain ⟨c117, c118⟩ := and_e c116
  obtain ⟨c119, c120⟩ := and_e c118
  obtain ⟨c121, c122⟩ := and_e c120
  obtain ⟨c123, c124⟩ := and_e c122
  obtain ⟨c125, c126⟩ := and_e c124
  obtain ⟨c127, c128⟩ := and_e c126
  obtain ⟨c129, c130⟩ := and_e c128
  obtain ⟨c131, c132⟩ := and_e c130
  obtain ⟨c133, c134⟩ := and_e c132
  obtain ⟨c135, c136⟩ := and_e c134
  obtain ⟨c137, c138⟩ := and_e c136
  obtain ⟨w_X, ev_w_X⟩ := exa_v c1
  have E_w_X := Exa.start ev_w_X c1
  have S_w_X := Sta.start ev_w_X (Or.inr ⟨(hw _ (List.mem_of_getElem? (i := 12) rfl)), (hw _ (List.mem_of_getElem? (i := 13) rfl))⟩)
  obtain ⟨w_S, ev_w_S⟩ := exa_v c3
  have E_w_S := Exa.start ev_w_S c3
  have S_w_S := Sta.start ev_w_S (Or.inr ⟨(hw _ (List.mem_of_getElem? (i := 12) rfl)), (hw _ (List.mem_of_getElem? (i := 15) rfl))⟩)
  obtain ⟨w_IS, ev_w_IS⟩ := exa_v c21
  have E_w_IS := Exa.start ev_w_IS c21
  have S_w_IS := Sta.start ev_w_IS (Or.inr ⟨(hw _ (List.mem_of_getElem? (i := 12) rfl)), (hw _ (List.mem_of_getElem? (i := 32) rfl))⟩)
  obtain ⟨w_IX, ev_w_IX⟩ := exa_v c23
  have E_w_IX := Exa.start ev_w_IX c23
  have S_w_IX := Sta.start ev_w_IX (Or.inr ⟨(hw _ (List.mem_of_getElem? (i := 12) rfl)), (hw _ (List.mem_of_getElem? (i := 34) rfl))⟩)
  obtain ⟨w_AUTO_INC, ev_w_AUTO_INC⟩ := exa_v c29
  have E_w_AUTO_INC := Exa.start ev_w_AUTO_INC c29
  have S_w_AUTO_INC := Sta.start ev_w_AUTO_INC (Or.inr ⟨(hw _ (List.mem_of_getElem? (i := 12) rfl)), (hw _ (List.mem_of_getElem? (i := 36) rfl))⟩)
  obtain ⟨w_X_REC_NOT_GAP, ev_w_X_REC_NOT_GAP⟩ := exa_v c37
  have E_w_X_REC_NOT_GAP := Exa.start ev_w_X_REC_NOT_GAP c37
  have S_w_X_REC_NOT_GAP := Sta.start ev_w_X_REC_NOT_GAP (Or.inr ⟨(hw _ (List.mem_of_getElem? (i := 12) rfl)), (hw _ (List.mem_of_getElem? (i := 38) rfl))⟩)
  obtain ⟨w_X_GAP, ev_w_X_GAP⟩ := exa_v c49
  have E_w_X_GAP := Exa.start ev_w_X_GAP c49
  have S_w_X_GAP := Sta.start ev_w_X_GAP (Or.inr ⟨(hw _ (List.mem_of_getElem? (i := 12) rfl)), (hw _ (List.mem_of_getElem? (i := 40) rfl))⟩)
  obtain ⟨w_S_REC_NOT_GAP, ev_w_S_REC_NOT_GAP⟩ := exa_v c63
  have E_w_S_REC_NOT_GAP := Exa.start ev_w_S_REC_NOT_GAP c63
  have S_w_S_REC_NOT_GAP := Sta.start ev_w_S_REC_NOT_GAP (Or.inr ⟨(hw _ (List.mem_of_getElem? (i := 12) rfl)), (hw _ (List.mem_of_getElem? (i := 42) rfl))⟩)
  obtain ⟨w_S_GAP, ev_w_S_GAP⟩ := exa_v c75
  have E_w_S_GAP := Exa.start ev_w_S_GAP c75
  have S_w_S_GAP := Sta.start ev_w_S_GAP (Or.inr ⟨(hw _ (List.mem_of_getElem? (i := 12) rfl)), (hw _ (List.mem_of_getElem? (i := 44) rfl))⟩)
  obtain ⟨w_X_INSERT_INTENTION, ev_w_X_INSERT_INTENTION⟩ := exa_v c87
  have E_w_X_INSERT_INTENTION := Exa.start ev_w_X_INSERT_INTENTION c87
  have S_w_X_INSERT_INTENTION := Sta.start ev_w_X_INSERT_INTENTION (Or.inr ⟨(hw _ (List.mem_of_getElem? (i := 12) rfl)), (hw _ (List.mem_of_getElem? (i := 46) rfl))⟩)
  have F_intention_w_X := own_fld c5 ev_w_X
  have F_keyLock_w_X := own_fld c7 ev_w_X
  have F_keyLock_w_S := own_fld c9 ev_w_S
  have F_insertIntention_w_X := own_fld c11 ev_w_X
  have F_insertIntention_w_S := own_fld c13 ev_w_S
  have F_coversTarget_w_X := own_fld c15 ev_w_X
  have F_coversTarget_w_S := own_fld c17 ev_w_S
  have F_shared_w_X := own_fld c19 ev_w_X
  have F_intention_w_IS := own_fld c25 ev_w_IS
  have F_intention_w_IX := own_fld c27 ev_w_IX
  have F_intention_w_AUTO_INC := own_fld c31 ev_w_AUTO_INC
  have F_keyLock_w_AUTO_INC := own_fld c33 ev_w_AUTO_INC
  have F_keyLock_w_IX := own_fld c35 ev_w_IX
  have F_intention_w_X_REC_NOT_GAP := own_fld c39 ev_w_X_REC_NOT_GAP
  have F_keyLock_w_X_REC_NOT_GAP := own_fld c41 ev_w_X_REC_NOT_GAP
  have F_insertIntention_w_X_REC_NOT_GAP := own_fld c43 ev_w_X_REC_NOT_GAP
  have F_coversTarget_w_X_REC_NOT_GAP := own_fld c45 ev_w_X_REC_NOT_GAP
  have F_shared_w_X_REC_NOT_GAP := own_fld c47 ev_w_X_REC_NOT_GAP
  have F_intention_w_S := own_fld c51 ev_w_S
  have F_keyLock_w_X_GAP := own_fld c53 ev_w_X_GAP
  have F_insertIntention_w_X_GAP := own_fld c55 ev_w_X_GAP
  have F_coversTarget_w_X_GAP := own_fld c57 ev_w_X_GAP
  have F_intention_w_X_GAP := own_fld c59 ev_w_X_GAP
  have F_keyLock_w_IS := own_fld c61 ev_w_IS
  have F_intention_w_S_REC_NOT_GAP := own_fld c65 ev_w_S_REC_NOT_GAP
  have F_keyLock_w_S_REC_NOT_GAP := own_fld c67 ev_w_S_REC_NOT_GAP
  have F_insertIntention_w_S_REC_NOT_GAP := own_fld c69 ev_w_S_REC_NOT_GAP
  have F_coversTarget_w_S_REC_NOT_GAP := own_fld c71 ev_w_S_REC_NOT_GAP
  have F_shared_w_S_REC_NOT_GAP := own_fld c73 ev_w_S_REC_NOT_GAP
  have F_keyLock_w_S_GAP := own_fld c77 ev_w_S_GAP
  have F_insertIntention_w_S_GAP := own_fld c79 ev_w_S_GAP
  have F_coversTarget_w_S_GAP := own_fld c81 ev_w_S_GAP
  have F_shared_w_S := own_fld c83 ev_w_S
  have F_intention_w_S_GAP := own_fld c85 ev_w_S_GAP
  have F_keyLock_w_X_INSERT_INTENTION := own_fld c89 ev_w_X_INSERT_INTENTION
  have F_insertIntention_w_X_INSERT_INTENTION := own_fld c91 ev_w_X_INSERT_INTENTION
  have F_intention_w_X_INSERT_INTENTION := own_fld c93 ev_w_X_INSERT_INTENTION
  have F_coversGap_w_X_GAP := own_fld c95 ev_w_X_GAP
  have F_coversGap_w_X_INSERT_INTENTION := own_fld c97 ev_w_X_INSERT_INTENTION
  have F_coversGap_w_S := own_fld c99 ev_w_S
  have F_coversGap_w_X := own_fld c101 ev_w_X
  have F_coversGap_w_S_GAP := own_fld c103 ev_w_S_GAP
  have F_coversGap_w_S_REC_NOT_GAP := own_fld c105 ev_w_S_REC_NOT_GAP
  have F_coversGap_w_X_REC_NOT_GAP := own_fld c107 ev_w_X_REC_NOT_GAP
  have F_insertIntention_w_IS := own_fld c109 ev_w_IS
  have F_coversTarget_w_IS := own_fld c111 ev_w_IS
  have F_shared_w_IS := own_fld c113 ev_w_IS
  have F_coversGap_w_IS := own_fld c115 ev_w_IS
  have F_insertIntention_w_IX := own_fld c117 ev_w_IX
  have F_coversTarget_w_IX := own_fld c119 ev_w_IX
  have F_shared_w_IX := own_fld c121 ev_w_IX
  have F_coversGap_w_IX := own_fld c123 ev_w_IX
  have F_insertIntention_w_AUTO_INC := own_fld c125 ev_w_AUTO_INC
  have F_coversTarget_w_AUTO_INC := own_fld c127 ev_w_AUTO_INC
  have F_shared_w_AUTO_INC := own_fld c129 ev_w_AUTO_INC
  have F_coversGap_w_AUTO_INC := own_fld c131 ev_w_AUTO_INC
  have F_shared_w_X_GAP := own_fld c133 ev_w_X_GAP
  have F_shared_w_S_GAP := own_fld c135 ev_w_S_GAP
  have F_coversTarget_w_X_INSERT_INTENTION := own_fld c137 ev_w_X_INSERT_INTENTION
  have F_shared_w_X_INSERT_INTENTION := own_fld c138 ev_w_X_INSERT_INTENTION
  have key : MetFree l x (head1 (Jvm.Cond.code x code maxLocals ret :: tables_1) room_1) (fun a U => a = #[(.int p1), (.int p2), (.int p3)] ∧ s.Warmed39 U.vm ∧ U.heap = s.heap) (fun _ _ _ _ _ => True) (fun _ U o U' => ∃ v L, o = .returned v ∧ own_Q1 s.heap.size v U'.heap L ∧ FrameEnd U o U' L room_1.cells room_1.slots) := by
    have hm3 : (p3 &&& (1 : Int32)).toInt = p3.toInt % 2 := c_mask p3 1 1 (by decide) (by decide)
    have hm_p1 : (p1 &&& (2147483647 : Int32)).toInt = p1.toInt % 2147483648 := c_mask p1 2147483647 31 (by decide) (by decide)
    have hr_p1_3 : ((p1 &&& (2147483647 : Int32)) % (3 : Int32)).toInt = (p1 &&& (2147483647 : Int32)).toInt % 3 := (c_irem (p1 &&& (2147483647 : Int32)) (3 : Int32) 3 rfl).1 (by omega)
    have hr_p1_7 : ((p1 &&& (2147483647 : Int32)) % (7 : Int32)).toInt = (p1 &&& (2147483647 : Int32)).toInt % 7 := (c_irem (p1 &&& (2147483647 : Int32)) (7 : Int32) 7 rfl).1 (by omega)
    have hm_p2 : (p2 &&& (2147483647 : Int32)).toInt = p2.toInt % 2147483648 := c_mask p2 2147483647 31 (by decide) (by decide)
    have hr_p2_3 : ((p2 &&& (2147483647 : Int32)) % (3 : Int32)).toInt = (p2 &&& (2147483647 : Int32)).toInt % 3 := (c_irem (p2 &&& (2147483647 : Int32)) (3 : Int32) 3 rfl).1 (by omega)
    have hr_p2_7 : ((p2 &&& (2147483647 : Int32)) % (7 : Int32)).toInt = (p2 &&& (2147483647 : Int32)).toInt % 7 := (c_irem (p2 &&& (2147483647 : Int32)) (7 : Int32) 7 rfl).1 (by omega)
    have hc3 : (p3 &&& (1 : Int32)) = (0 : Int32) ∨ (p3 &&& (1 : Int32)) = (1 : Int32) := by
      have z0 : (0 : Int32).toInt = 0 := rfl
      have z1 : (1 : Int32).toInt = 1 := rfl
      simp only [← Int32.toInt_inj, z0, z1]
      omega
    have hc_p1_3 : ((p1 &&& (2147483647 : Int32)) % (3 : Int32)) = (0 : Int32) ∨ ((p1 &&& (2147483647 : Int32)) % (3 : Int32)) = (1 : Int32) ∨ ((p1 &&& (2147483647 : Int32)) % (3 : Int32)) = (2 : Int32) := by
      have z0 : (0 : Int32).toInt = 0 := rfl
      have z1 : (1 : Int32).toInt = 1 := rfl
      have z2 : (2 : Int32).toInt = 2 := rfl
      simp only [← Int32.toInt_inj, z0, z1, z2]
      omega
    have hc_p1_7 : ((p1 &&& (2147483647 : Int32)) % (7 : Int32)) = (0 : Int32) ∨ ((p1 &&& (2147483647 : Int32)) % (7 : Int32)) = (1 : Int32) ∨ ((p1 &&& (2147483647 : Int32)) % (7 : Int32)) = (2 : Int32) ∨ ((p1 &&& (2147483647 : Int32)) % (7 : Int32)) = (3 : Int32) ∨ ((p1 &&& (2147483647 : Int32)) % (7 : Int32)) = (4 : Int32) ∨ ((p1 &&& (2147483647 : Int32)) % (7 : Int32)) = (5 : Int32) ∨ ((p1 &&& (2147483647 : Int32)) % (7 : Int32)) = (6 : Int32) := by
      have z0 : (0 : Int32).toInt = 0 := rfl
      have z1 : (1 : Int32).toInt = 1 := rfl
      have z2 : (2 : Int32).toInt = 2 := rfl
      have z3 : (3 : Int32).toInt = 3 := rfl
      have z4 : (4 : Int32).toInt = 4 := rfl
      have z5 : (5 : Int32).toInt = 5 := rfl
      have z6 : (6 : Int32).toInt = 6 := rfl
      simp only [← Int32.toInt_inj, z0, z1, z2, z3, z4, z5, z6]
      omega
    have hc_p2_3 : ((p2 &&& (2147483647 : Int32)) % (3 : Int32)) = (0 : Int32) ∨ ((p2 &&& (2147483647 : Int32)) % (3 : Int32)) = (1 : Int32) ∨ ((p2 &&& (2147483647 : Int32)) % (3 : Int32)) = (2 : Int32) := by
      have z0 : (0 : Int32).toInt = 0 := rfl
      have z1 : (1 : Int32).toInt = 1 := rfl
      have z2 : (2 : Int32).toInt = 2 := rfl
      simp only [← Int32.toInt_inj, z0, z1, z2]
      omega
    have hc_p2_7 : ((p2 &&& (2147483647 : Int32)) % (7 : Int32)) = (0 : Int32) ∨ ((p2 &&& (2147483647 : Int32)) % (7 : Int32)) = (1 : Int32) ∨ ((p2 &&& (2147483647 : Int32)) % (7 : Int32)) = (2 : Int32) ∨ ((p2 &&& (2147483647 : Int32)) % (7 : Int32)) = (3 : Int32) ∨ ((p2 &&& (2147483647 : Int32)) % (7 : Int32)) = (4 : Int32) ∨ ((p2 &&& (2147483647 : Int32)) % (7 : Int32)) = (5 : Int32) ∨ ((p2 &&& (2147483647 : Int32)) % (7 : Int32)) = (6 : Int32) := by
      have z0 : (0 : Int32).toInt = 0 := rfl
      have z1 : (1 : Int32).toInt = 1 := rfl
      have z2 : (2 : Int32).toInt = 2 := rfl
      have z3 : (3 : Int32).toInt = 3 := rfl
      have z4 : (4 : Int32).toInt = 4 := rfl
      have z5 : (5 : Int32).toInt = 5 := rfl
      have z6 : (6 : Int32).toInt = 6 := rfl
      simp only [← Int32.toInt_inj, z0, z1, z2, z3, z4, z5, z6]
      omega
    rcases hc3 with h3 | h3
    · rcases hc_p1_7 with h1 | h1 | h1 | h1 | h1 | h1 | h1 <;> rcases hc_p2_7 with h2 | h2 | h2 | h2 | h2 | h2 | h2
      · exact law_1 l s _ hw tables_1 p1 p2 p3 (0 : Int32) (2 : Int32) (2 : Int32) (108 : Int32) w_X w_X s.heap s.heap.size (Old.start s) h3 (fun h O => rm1_0 l s _ hw p1 h s.heap.size O h1) (fun h O => rm1_0 l s _ hw p2 h s.heap.size O h2) (fun h O => rm2_0 l s _ hw  h s.heap.size O ) (by decide) (fun h O => rm3_0 l s _ hw w_X h s.heap.size O S_w_X) (fun h O => rm3_0 l s _ hw w_X h s.heap.size O S_w_X) E_w_X (fun h O => rm4_0 l s _ hw w_X h s.heap.size O (F_intention_w_X.ext O.2) (F_keyLock_w_X.ext O.2) (F_insertIntention_w_X.ext O.2) (F_coversTarget_w_X.ext O.2) (F_shared_w_X.ext O.2))
      · exact law_1 l s _ hw tables_1 p1 p2 p3 (0 : Int32) (2 : Int32) (3 : Int32) (108 : Int32) w_X w_X_REC_NOT_GAP s.heap s.heap.size (Old.start s) h3 (fun h O => rm1_0 l s _ hw p1 h s.heap.size O h1) (fun h O => rm1_1 l s _ hw p2 h s.heap.size O h2) (fun h O => rm2_0 l s _ hw  h s.heap.size O ) (by decide) (fun h O => rm3_0 l s _ hw w_X h s.heap.size O S_w_X) (fun h O => rm3_1 l s _ hw w_X_REC_NOT_GAP h s.heap.size O S_w_X_REC_NOT_GAP) E_w_X (fun h O => rm4_1 l s _ hw w_X w_X_REC_NOT_GAP h s.heap.size O (F_intention_w_X.ext O.2) (F_keyLock_w_X.ext O.2) (F_keyLock_w_X_REC_NOT_GAP.ext O.2) (F_insertIntention_w_X.ext O.2) (F_insertIntention_w_X_REC_NOT_GAP.ext O.2) (F_coversTarget_w_X.ext O.2) (F_coversTarget_w_X_REC_NOT_GAP.ext O.2) (F_shared_w_X.ext O.2))
      · exact law_0 l s _ hw tables_1 p1 p2 p3 (0 : Int32) (2 : Int32) (4 : Int32) (108 : Int32) w_X w_X_GAP s.heap s.heap.size (Old.start s) h3 (fun h O => rm1_0 l s _ hw p1 h s.heap.size O h1) (fun h O => rm1_2 l s _ hw p2 h s.heap.size O h2) (fun h O => rm2_0 l s _ hw  h s.heap.size O ) (by decide) (fun h O => rm3_0 l s _ hw w_X h s.heap.size O S_w_X) (fun h O => rm3_2 l s _ hw w_X_GAP h s.heap.size O S_w_X_GAP) E_w_X (fun h O => rm4_2 l s _ hw w_X w_X_GAP h s.heap.size O (F_intention_w_X.ext O.2) (F_keyLock_w_X.ext O.2) (F_keyLock_w_X_GAP.ext O.2) (F_insertIntention_w_X.ext O.2) (F_insertIntention_w_X_GAP.ext O.2) (F_coversTarget_w_X.ext O.2) (F_coversTarget_w_X_GAP.ext O.2))
      · exact law_1 l s _ hw tables_1 p1 p2 p3 (0 : Int32) (2 : Int32) (5 : Int32) (108 : Int32) w_X w_S s.heap s.heap.size (Old.start s) h3 (fun h O => rm1_0 l s _ hw p1 h s.heap.size O h1) (fun h O => rm1_3 l s _ hw p2 h s.heap.size O h2) (fun h O => rm2_0 l s _ hw  h s.heap.size O ) (by decide) (fun h O => rm3_0 l s _ hw w_X h s.heap.size O S_w_X) (fun h O => rm3_3 l s _ hw w_S h s.heap.size O S_w_S) E_w_X (fun h O => rm4_1 l s _ hw w_X w_S h s.heap.size O (F_intention_w_X.ext O.2) (F_keyLock_w_X.ext O.2) (F_keyLock_w_S.ext O.2) (F_insertIntention_w_X.ext O.2) (F_insertIntention_w_S.ext O.2) (F_coversTarget_w_X.ext O.2) (F_coversTarget_w_S.ext O.2) (F_shared_w_X.ext O.2))
      · exact law_1 l s _ hw tables_1 p1 p2 p3 (0 : Int32) (2 : Int32) (6 : Int32) (108 : Int32) w_X w_S_REC_NOT_GAP s.heap s.heap.size (Old.start s) h3 (fun h O => rm1_0 l s _ hw p1 h s.heap.size O h1) (fun h O => rm1_4 l s _ hw p2 h s.heap.size O h2) (fun h O => rm2_0 l s _ hw  h s.heap.size O ) (by decide) (fun h O => rm3_0 l s _ hw w_X h s.heap.size O S_w_X) (fun h O => rm3_4 l s _ hw w_S_REC_NOT_GAP h s.heap.size O S_w_S_REC_NOT_GAP) E_w_X (fun h O => rm4_1 l s _ hw w_X w_S_REC_NOT_GAP h s.heap.size O (F_intention_w_X.ext O.2) (F_keyLock_w_X.ext O.2) (F_keyLock_w_S_REC_NOT_GAP.ext O.2) (F_insertIntention_w_X.ext O.2) (F_insertIntention_w_S_REC_NOT_GAP.ext O.2) (F_coversTarget_w_X.ext O.2) (F_coversTarget_w_S_REC_NOT_GAP.ext O.2) (F_shared_w_X.ext O.2))
      · exact law_0 l s _ hw tables_1 p1 p2 p3 (0 : Int32) (2 : Int32) (7 : Int32) (108 : Int32) w_X w_S_GAP s.heap s.heap.size (Old.start s) h3 (fun h O => rm1_0 l s _ hw p1 h s.heap.size O h1) (fun h O => rm1_5 l s _ hw p2 h s.heap.size O h2) (fun h O => rm2_0 l s _ hw  h s.heap.size O ) (by decide) (fun h O => rm3_0 l s _ hw w_X h s.heap.size O S_w_X) (fun h O => rm3_5 l s _ hw w_S_GAP h s.heap.size O S_w_S_GAP) E_w_X (fun h O => rm4_2 l s _ hw w_X w_S_GAP h s.heap.size O (F_intention_w_X.ext O.2) (F_keyLock_w_X.ext O.2) (F_keyLock_w_S_GAP.ext O.2) (F_insertIntention_w_X.ext O.2) (F_insertIntention_w_S_GAP.ext O.2) (F_coversTarget_w_X.ext O.2) (F_coversTarget_w_S_GAP.ext O.2))
      · exact law_0 l s _ hw tables_1 p1 p2 p3 (0 : Int32) (2 : Int32) (8 : Int32) (108 : Int32) w_X w_X_INSERT_INTENTION s.heap s.heap.size (Old.start s) h3 (fun h O => rm1_0 l s _ hw p1 h s.heap.size O h1) (fun h O => rm1_6 l s _ hw p2 h s.heap.size O h2) (fun h O => rm2_0 l s _ hw  h s.heap.size O ) (by decide) (fun h O => rm3_0 l s _ hw w_X h s.heap.size O S_w_X) (fun h O => rm3_6 l s _ hw w_X_INSERT_INTENTION h s.heap.size O S_w_X_INSERT_INTENTION) E_w_X (fun h O => rm4_3 l s _ hw w_X w_X_INSERT_INTENTION h s.heap.size O (F_intention_w_X.ext O.2) (F_keyLock_w_X.ext O.2) (F_keyLock_w_X_INSERT_INTENTION.ext O.2) (F_insertIntention_w_X.ext O.2) (F_insertIntention_w_X_INSERT_INTENTION.ext O.2))
      · exact law_1 l s _ hw tables_1 p1 p2 p3 (0 : Int32) (3 : Int32) (2 : Int32) (108 : Int32) w_X_REC_NOT_GAP w_X s.heap s.heap.size (Old.start s) h3 (fun h O => rm1_1 l s _ hw p1 h s.heap.size O h1) (fun h O => rm1_0 l s _ hw p2 h s.heap.size O h2) (fun h O => rm2_1 l s _ hw  h s.heap.size O ) (by decide) (fun h O => rm3_1 l s _ hw w_X_REC_NOT_GAP h s.heap.size O S_w_X_REC_NOT_GAP) (fun h O => rm3_0 l s _ hw w_X h s.heap.size O S_w_X) E_w_X_REC_NOT_GAP (fun h O => rm4_1 l s _ hw w_X_REC_NOT_GAP w_X h s.heap.size O (F_intention_w_X_REC_NOT_GAP.ext O.2) (F_keyLock_w_X_REC_NOT_GAP.ext O.2) (F_keyLock_w_X.ext O.2) (F_insertIntention_w_X_REC_NOT_GAP.ext O.2) (F_insertIntention_w_X.ext O.2) (F_coversTarget_w_X_REC_NOT_GAP.ext O.2) (F_coversTarget_w_X.ext O.2) (F_shared_w_X_REC_NOT_GAP.ext O.2))
      · exact law_1 l s _ hw tables_1 p1 p2 p3 (0 : Int32) (3 : Int32) (3 : Int32) (108 : Int32) w_X_REC_NOT_GAP w_X_REC_NOT_GAP s.heap s.heap.size (Old.start s) h3 (fun h O => rm1_1 l s _ hw p1 h s.heap.size O h1) (fun h O => rm1_1 l s _ hw p2 h s.heap.size O h2) (fun h O => rm2_1 l s _ hw  h s.heap.size O ) (by decide) (fun h O => rm3_1 l s _ hw w_X_REC_NOT_GAP h s.heap.size O S_w_X_REC_NOT_GAP) (fun h O => rm3_1 l s _ hw w_X_REC_NOT_GAP h s.heap.size O S_w_X_REC_NOT_GAP) E_w_X_REC_NOT_GAP (fun h O => rm4_0 l s _ hw w_X_REC_NOT_GAP h s.heap.size O (F_intention_w_X_REC_NOT_GAP.ext O.2) (F_keyLock_w_X_REC_NOT_GAP.ext O.2) (F_insertIntention_w_X_REC_NOT_GAP.ext O.2) (F_coversTarget_w_X_REC_NOT_GAP.ext O.2) (F_shared_w_X_REC_NOT_GAP.ext O.2))
      · exact law_0 l s _ hw tables_1 p1 p2 p3 (0 : Int32) (3 : Int32) (4 : Int32) (108 : Int32) w_X_REC_NOT_GAP w_X_GAP s.heap s.heap.size (Old.start s) h3 (fun h O => rm1_1 l s _ hw p1 h s.heap.size O h1) (fun h O => rm1_2 l s _ hw p2 h s.heap.size O h2) (fun h O => rm2_1 l s _ hw  h s.heap.size O ) (by decide) (fun h O => rm3_1 l s _ hw w_X_REC_NOT_GAP h s.heap.size O S_w_X_REC_NOT_GAP) (fun h O => rm3_2 l s _ hw w_X_GAP h s.heap.size O S_w_X_GAP) E_w_X_REC_NOT_GAP (fun h O => rm4_2 l s _ hw w_X_REC_NOT_GAP w_X_GAP h s.heap.size O (F_intention_w_X_REC_NOT_GAP.ext O.2) (F_keyLock_w_X_REC_NOT_GAP.ext O.2) (F_keyLock_w_X_GAP.ext O.2) (F_insertIntention_w_X_REC_NOT_GAP.ext O.2) (F_insertIntention_w_X_GAP.ext O.2) (F_coversTarget_w_X_REC_NOT_GAP.ext O.2) (F_coversTarget_w_X_GAP.ext O.2))
      · exact law_1 l s _ hw tables_1 p1 p2 p3 (0 : Int32) (3 : Int32) (5 : Int32) (108 : Int32) w_X_REC_NOT_GAP w_S s.heap s.heap.size (Old.start s) h3 (fun h O => rm1_1 l s _ hw p1 h s.heap.size O h1) (fun h O => rm1_3 l s _ hw p2 h s.heap.size O h2) (fun h O => rm2_1 l s _ hw  h s.heap.size O ) (by decide) (fun h O => rm3_1 l s _ hw w_X_REC_NOT_GAP h s.heap.size O S_w_X_REC_NOT_GAP) (fun h O => rm3_3 l s _ hw w_S h s.heap.size O S_w_S) E_w_X_REC_NOT_GAP (fun h O => rm4_1 l s _ hw w_X_REC_NOT_GAP w_S h s.heap.size O (F_intention_w_X_REC_NOT_GAP.ext O.2) (F_keyLock_w_X_REC_NOT_GAP.ext O.2) (F_keyLock_w_S.ext O.2) (F_insertIntention_w_X_REC_NOT_GAP.ext O.2) (F_insertIntention_w_S.ext O.2) (F_coversTarget_w_X_REC_NOT_GAP.ext O.2) (F_coversTarget_w_S.ext O.2) (F_shared_w_X_REC_NOT_GAP.ext O.2))
      · exact law_1 l s _ hw tables_1 p1 p2 p3 (0 : Int32) (3 : Int32) (6 : Int32) (108 : Int32) w_X_REC_NOT_GAP w_S_REC_NOT_GAP s.heap s.heap.size (Old.start s) h3 (fun h O => rm1_1 l s _ hw p1 h s.heap.size O h1) (fun h O => rm1_4 l s _ hw p2 h s.heap.size O h2) (fun h O => rm2_1 l s _ hw  h s.heap.size O ) (by decide) (fun h O => rm3_1 l s _ hw w_X_REC_NOT_GAP h s.heap.size O S_w_X_REC_NOT_GAP) (fun h O => rm3_4 l s _ hw w_S_REC_NOT_GAP h s.heap.size O S_w_S_REC_NOT_GAP) E_w_X_REC_NOT_GAP (fun h O => rm4_1 l s _ hw w_X_REC_NOT_GAP w_S_REC_NOT_GAP h s.heap.size O (F_intention_w_X_REC_NOT_GAP.ext O.2) (F_keyLock_w_X_REC_NOT_GAP.ext O.2) (F_keyLock_w_S_REC_NOT_GAP.ext O.2) (F_insertIntention_w_X_REC_NOT_GAP.ext O.2) (F_insertIntention_w_S_REC_NOT_GAP.ext O.2) (F_coversTarget_w_X_REC_NOT_GAP.ext O.2) (F_coversTarget_w_S_REC_NOT_GAP.ext O.2) (F_shared_w_X_REC_NOT_GAP.ext O.2))
      · exact law_0 l s _ hw tables_1 p1 p2 p3 (0 : Int32) (3 : Int32) (7 : Int32) (108 : Int32) w_X_REC_NOT_GAP w_S_GAP s.heap s.heap.size (Old.start s) h3 (fun h O => rm1_1 l s _ hw p1 h s.heap.size O h1) (fun h O => rm1_5 l s _ hw p2 h s.heap.size O h2) (fun h O => rm2_1 l s _ hw  h s.heap.size O ) (by decide) (fun h O => rm3_1 l s _ hw w_X_REC_NOT_GAP h s.heap.size O S_w_X_REC_NOT_GAP) (fun h O => rm3_5 l s _ hw w_S_GAP h s.heap.size O S_w_S_GAP) E_w_X_REC_NOT_GAP (fun h O => rm4_2 l s _ hw w_X_REC_NOT_GAP w_S_GAP h s.heap.size O (F_intention_w_X_REC_NOT_GAP.ext O.2) (F_keyLock_w_X_REC_NOT_GAP.ext O.2) (F_keyLock_w_S_GAP.ext O.2) (F_insertIntention_w_X_REC_NOT_GAP.ext O.2) (F_insertIntention_w_S_GAP.ext O.2) (F_coversTarget_w_X_REC_NOT_GAP.ext O.2) (F_coversTarget_w_S_GAP.ext O.2))
      · exact law_0 l s _ hw tables_1 p1 p2 p3 (0 : Int32) (3 : Int32) (8 : Int32) (108 : Int32) w_X_REC_NOT_GAP w_X_INSERT_INTENTION s.heap s.heap.size (Old.start s) h3 (fun h O => rm1_1 l s _ hw p1 h s.heap.size O h1) (fun h O => rm1_6 l s _ hw p2 h s.heap.size O h2) (fun h O => rm2_1 l s _ hw  h s.heap.size O ) (by decide) (fun h O => rm3_1 l s _ hw w_X_REC_NOT_GAP h s.heap.size O S_w_X_REC_NOT_GAP) (fun h O => rm3_6 l s _ hw w_X_INSERT_INTENTION h s.heap.size O S_w_X_INSERT_INTENTION) E_w_X_REC_NOT_GAP (fun h O => rm4_3 l s _ hw w_X_REC_NOT_GAP w_X_INSERT_INTENTION h s.heap.size O (F_intention_w_X_REC_NOT_GAP.ext O.2) (F_keyLock_w_X_REC_NOT_GAP.ext O.2) (F_keyLock_w_X_INSERT_INTENTION.ext O.2) (F_insertIntention_w_X_REC_NOT_GAP.ext O.2) (F_insertIntention_w_X_INSERT_INTENTION.ext O.2))
      · exact law_0 l s _ hw tables_1 p1 p2 p3 (0 : Int32) (4 : Int32) (2 : Int32) (0 : Int32) w_X_GAP w_X s.heap s.heap.size (Old.start s) h3 (fun h O => rm1_2 l s _ hw p1 h s.heap.size O h1) (fun h O => rm1_0 l s _ hw p2 h s.heap.size O h2) (fun h O => rm2_2 l s _ hw  h s.heap.size O ) (by decide) (fun h O => rm3_2 l s _ hw w_X_GAP h s.heap.size O S_w_X_GAP) (fun h O => rm3_0 l s _ hw w_X h s.heap.size O S_w_X) E_w_X_GAP (fun h O => rm4_4 l s _ hw w_X_GAP w_X h s.heap.size O (F_intention_w_X_GAP.ext O.2) (F_keyLock_w_X_GAP.ext O.2) (F_keyLock_w_X.ext O.2) (F_insertIntention_w_X_GAP.ext O.2) (F_insertIntention_w_X.ext O.2) (F_coversTarget_w_X_GAP.ext O.2))
      · exact law_0 l s _ hw tables_1 p1 p2 p3 (0 : Int32) (4 : Int32) (3 : Int32) (0 : Int32) w_X_GAP w_X_REC_NOT_GAP s.heap s.heap.size (Old.start s) h3 (fun h O => rm1_2 l s _ hw p1 h s.heap.size O h1) (fun h O => rm1_1 l s _ hw p2 h s.heap.size O h2) (fun h O => rm2_2 l s _ hw  h s.heap.size O ) (by decide) (fun h O => rm3_2 l s _ hw w_X_GAP h s.heap.size O S_w_X_GAP) (fun h O => rm3_1 l s _ hw w_X_REC_NOT_GAP h s.heap.size O S_w_X_REC_NOT_GAP) E_w_X_GAP (fun h O => rm4_4 l s _ hw w_X_GAP w_X_REC_NOT_GAP h s.heap.size O (F_intention_w_X_GAP.ext O.2) (F_keyLock_w_X_GAP.ext O.2) (F_keyLock_w_X_REC_NOT_GAP.ext O.2) (F_insertIntention_w_X_GAP.ext O.2) (F_insertIntention_w_X_REC_NOT_GAP.ext O.2) (F_coversTarget_w_X_GAP.ext O.2))
      · exact law_0 l s _ hw tables_1 p1 p2 p3 (0 : Int32) (4 : Int32) (4 : Int32) (0 : Int32) w_X_GAP w_X_GAP s.heap s.heap.size (Old.start s) h3 (fun h O => rm1_2 l s _ hw p1 h s.heap.size O h1) (fun h O => rm1_2 l s _ hw p2 h s.heap.size O h2) (fun h O => rm2_2 l s _ hw  h s.heap.size O ) (by decide) (fun h O => rm3_2 l s _ hw w_X_GAP h s.heap.size O S_w_X_GAP) (fun h O => rm3_2 l s _ hw w_X_GAP h s.heap.size O S_w_X_GAP) E_w_X_GAP (fun h O => rm4_5 l s _ hw w_X_GAP h s.heap.size O (F_intention_w_X_GAP.ext O.2) (F_keyLock_w_X_GAP.ext O.2) (F_insertIntention_w_X_GAP.ext O.2) (F_coversTarget_w_X_GAP.ext O.2))
      · exact law_0 l s _ hw tables_1 p1 p2 p3 (0 : Int32) (4 : Int32) (5 : Int32) (0 : Int32) w_X_GAP w_S s.heap s.heap.size (Old.start s) h3 (fun h O => rm1_2 l s _ hw p1 h s.heap.size O h1) (fun h O => rm1_3 l s _ hw p2 h s.heap.size O h2) (fun h O => rm2_2 l s _ hw  h s.heap.size O ) (by decide) (fun h O => rm3_2 l s _ hw w_X_GAP h s.heap.size O S_w_X_GAP) (fun h O => rm3_3 l s _ hw w_S h s.heap.size O S_w_S) E_w_X_GAP (fun h O => rm4_4 l s _ hw w_X_GAP w_S h s.heap.size O (F_intention_w_X_GAP.ext O.2) (F_keyLock_w_X_GAP.ext O.2) (F_keyLock_w_S.ext O.2) (F_insertIntention_w_X_GAP.ext O.2) (F_insertIntention_w_S.ext O.2) (F_coversTarget_w_X_GAP.ext O.2))
      · exact law_0 l s _ hw tables_1 p1 p2 p3 (0 : Int32) (4 : Int32) (6 : Int32) (0 : Int32) w_X_GAP w_S_REC_NOT_GAP s.heap s.heap.size (Old.start s) h3 (fun h O => rm1_2 l s _ hw p1 h s.heap.size O h1) (fun h O => rm1_4 l s _ hw p2 h s.heap.size O h2) (fun h O => rm2_2 l s _ hw  h s.heap.size O ) (by decide) (fun h O => rm3_2 l s _ hw w_X_GAP h s.heap.size O S_w_X_GAP) (fun h O => rm3_4 l s _ hw w_S_REC_NOT_GAP h s.heap.size O S_w_S_REC_NOT_GAP) E_w_X_GAP (fun h O => rm4_4 l s _ hw w_X_GAP w_S_REC_NOT_GAP h s.heap.size O (F_intention_w_X_GAP.ext O.2) (F_keyLock_w_X_GAP.ext O.2) (F_keyLock_w_S_REC_NOT_GAP.ext O.2) (F_insertIntention_w_X_GAP.ext O.2) (F_insertIntention_w_S_REC_NOT_GAP.ext O.2) (F_coversTarget_w_X_GAP.ext O.2))
      · exact law_0 l s _ hw tables_1 p1 p2 p3 (0 : Int32) (4 : Int32) (7 : Int32) (0 : Int32) w_X_GAP w_S_GAP s.heap s.heap.size (Old.start s) h3 (fun h O => rm1_2 l s _ hw p1 h s.heap.size O h1) (fun h O => rm1_5 l s _ hw p2 h s.heap.size O h2) (fun h O => rm2_2 l s _ hw  h s.heap.size O ) (by decide) (fun h O => rm3_2 l s _ hw w_X_GAP h s.heap.size O S_w_X_GAP) (fun h O => rm3_5 l s _ hw w_S_GAP h s.heap.size O S_w_S_GAP) E_w_X_GAP (fun h O => rm4_4 l s _ hw w_X_GAP w_S_GAP h s.heap.size O (F_intention_w_X_GAP.ext O.2) (F_keyLock_w_X_GAP.ext O.2) (F_keyLock_w_S_GAP.ext O.2) (F_insertIntention_w_X_GAP.ext O.2) (F_insertIntention_w_S_GAP.ext O.2) (F_coversTarget_w_X_GAP.ext O.2))
      · exact law_0 l s _ hw tables_1 p1 p2 p3 (0 : Int32) (4 : Int32) (8 : Int32) (0 : Int32) w_X_GAP w_X_INSERT_INTENTION s.heap s.heap.size (Old.start s) h3 (fun h O => rm1_2 l s _ hw p1 h s.heap.size O h1) (fun h O => rm1_6 l s _ hw p2 h s.heap.size O h2) (fun h O => rm2_2 l s _ hw  h s.heap.size O ) (by decide) (fun h O => rm3_2 l s _ hw w_X_GAP h s.heap.size O S_w_X_GAP) (fun h O => rm3_6 l s _ hw w_X_INSERT_INTENTION h s.heap.size O S_w_X_INSERT_INTENTION) E_w_X_GAP (fun h O => rm4_3 l s _ hw w_X_GAP w_X_INSERT_INTENTION h s.heap.size O (F_intention_w_X_GAP.ext O.2) (F_keyLock_w_X_GAP.ext O.2) (F_keyLock_w_X_INSERT_INTENTION.ext O.2) (F_insertIntention_w_X_GAP.ext O.2) (F_insertIntention_w_X_INSERT_INTENTION.ext O.2))
      · exact law_1 l s _ hw tables_1 p1 p2 p3 (0 : Int32) (5 : Int32) (2 : Int32) (12 : Int32) w_S w_X s.heap s.heap.size (Old.start s) h3 (fun h O => rm1_3 l s _ hw p1 h s.heap.size O h1) (fun h O => rm1_0 l s _ hw p2 h s.heap.size O h2) (fun h O => rm2_3 l s _ hw  h s.heap.size O ) (by decide) (fun h O => rm3_3 l s _ hw w_S h s.heap.size O S_w_S) (fun h O => rm3_0 l s _ hw w_X h s.heap.size O S_w_X) E_w_S (fun h O => rm4_6 l s _ hw w_S w_X h s.heap.size O (F_intention_w_S.ext O.2) (F_keyLock_w_S.ext O.2) (F_keyLock_w_X.ext O.2) (F_insertIntention_w_S.ext O.2) (F_insertIntention_w_X.ext O.2) (F_coversTarget_w_S.ext O.2) (F_coversTarget_w_X.ext O.2) (F_shared_w_S.ext O.2) (F_shared_w_X.ext O.2))
      · exact law_1 l s _ hw tables_1 p1 p2 p3 (0 : Int32) (5 : Int32) (3 : Int32) (12 : Int32) w_S w_X_REC_NOT_GAP s.heap s.heap.size (Old.start s) h3 (fun h O => rm1_3 l s _ hw p1 h s.heap.size O h1) (fun h O => rm1_1 l s _ hw p2 h s.heap.size O h2) (fun h O => rm2_3 l s _ hw  h s.heap.size O ) (by decide) (fun h O => rm3_3 l s _ hw w_S h s.heap.size O S_w_S) (fun h O => rm3_1 l s _ hw w_X_REC_NOT_GAP h s.heap.size O S_w_X_REC_NOT_GAP) E_w_S (fun h O => rm4_6 l s _ hw w_S w_X_REC_NOT_GAP h s.heap.size O (F_intention_w_S.ext O.2) (F_keyLock_w_S.ext O.2) (F_keyLock_w_X_REC_NOT_GAP.ext O.2) (F_insertIntention_w_S.ext O.2) (F_insertIntention_w_X_REC_NOT_GAP.ext O.2) (F_coversTarget_w_S.ext O.2) (F_coversTarget_w_X_REC_NOT_GAP.ext O.2) (F_shared_w_S.ext O.2) (F_shared_w_X_REC_NOT_GAP.ext O.2))
      · exact law_0 l s _ hw tables_1 p1 p2 p3 (0 : Int32) (5 : Int32) (4 : Int32) (12 : Int32) w_S w_X_GAP s.heap s.heap.size (Old.start s) h3 (fun h O => rm1_3 l s _ hw p1 h s.heap.size O h1) (fun h O => rm1_2 l s _ hw p2 h s.heap.size O h2) (fun h O => rm2_3 l s _ hw  h s.heap.size O ) (by decide) (fun h O => rm3_3 l s _ hw w_S h s.heap.size O S_w_S) (fun h O => rm3_2 l s _ hw w_X_GAP h s.heap.size O S_w_X_GAP) E_w_S (fun h O => rm4_2 l s _ hw w_S w_X_GAP h s.heap.size O (F_intention_w_S.ext O.2) (F_keyLock_w_S.ext O.2) (F_keyLock_w_X_GAP.ext O.2) (F_insertIntention_w_S.ext O.2) (F_insertIntention_w_X_GAP.ext O.2) (F_coversTarget_w_S.ext O.2) (F_coversTarget_w_X_GAP.ext O.2))
      · exact law_0 l s _ hw tables_1 p1 p2 p3 (0 : Int32) (5 : Int32) (5 : Int32) (12 : Int32) w_S w_S s.heap s.heap.size (Old.start s) h3 (fun h O => rm1_3 l s _ hw p1 h s.heap.size O h1) (fun h O => rm1_3 l s _ hw p2 h s.heap.size O h2) (fun h O => rm2_3 l s _ hw  h s.heap.size O ) (by decide) (fun h O => rm3_3 l s _ hw w_S h s.heap.size O S_w_S) (fun h O => rm3_3 l s _ hw w_S h s.heap.size O S_w_S) E_w_S (fun h O => rm4_7 l s _ hw w_S h s.heap.size O (F_intention_w_S.ext O.2) (F_keyLock_w_S.ext O.2) (F_insertIntention_w_S.ext O.2) (F_coversTarget_w_S.ext O.2) (F_shared_w_S.ext O.2))
      · exact law_0 l s _ hw tables_1 p1 p2 p3 (0 : Int32) (5 : Int32) (6 : Int32) (12 : Int32) w_S w_S_REC_NOT_GAP s.heap s.heap.size (Old.start s) h3 (fun h O => rm1_3 l s _ hw p1 h s.heap.size O h1) (fun h O => rm1_4 l s _ hw p2 h s.heap.size O h2) (fun h O => rm2_3 l s _ hw  h s.heap.size O ) (by decide) (fun h O => rm3_3 l s _ hw w_S h s.heap.size O S_w_S) (fun h O => rm3_4 l s _ hw w_S_REC_NOT_GAP h s.heap.size O S_w_S_REC_NOT_GAP) E_w_S (fun h O => rm4_8 l s _ hw w_S w_S_REC_NOT_GAP h s.heap.size O (F_intention_w_S.ext O.2) (F_keyLock_w_S.ext O.2) (F_keyLock_w_S_REC_NOT_GAP.ext O.2) (F_insertIntention_w_S.ext O.2) (F_insertIntention_w_S_REC_NOT_GAP.ext O.2) (F_coversTarget_w_S.ext O.2) (F_coversTarget_w_S_REC_NOT_GAP.ext O.2) (F_shared_w_S.ext O.2) (F_shared_w_S_REC_NOT_GAP.ext O.2))
      · exact law_0 l s _ hw tables_1 p1 p2 p3 (0 : Int32) (5 : Int32) (7 : Int32) (12 : Int32) w_S w_S_GAP s.heap s.heap.size (Old.start s) h3 (fun h O => rm1_3 l s _ hw p1 h s.heap.size O h1) (fun h O => rm1_5 l s _ hw p2 h s.heap.size O h2) (fun h O => rm2_3 l s _ hw  h s.heap.size O ) (by decide) (fun h O => rm3_3 l s _ hw w_S h s.heap.size O S_w_S) (fun h O => rm3_5 l s _ hw w_S_GAP h s.heap.size O S_w_S_GAP) E_w_S (fun h O => rm4_2 l s _ hw w_S w_S_GAP h s.heap.size O (F_intention_w_S.ext O.2) (F_keyLock_w_S.ext O.2) (F_keyLock_w_S_GAP.ext O.2) (F_insertIntention_w_S.ext O.2) (F_insertIntention_w_S_GAP.ext O.2) (F_coversTarget_w_S.ext O.2) (F_coversTarget_w_S_GAP.ext O.2))
      · exact law_0 l s _ hw tables_1 p1 p2 p3 (0 : Int32) (5 : Int32) (8 : Int32) (12 : Int32) w_S w_X_INSERT_INTENTION s.heap s.heap.size (Old.start s) h3 (fun h O => rm1_3 l s _ hw p1 h s.heap.size O h1) (fun h O => rm1_6 l s _ hw p2 h s.heap.size O h2) (fun h O => rm2_3 l s _ hw  h s.heap.size O ) (by decide) (fun h O => rm3_3 l s _ hw w_S h s.heap.size O S_w_S) (fun h O => rm3_6 l s _ hw w_X_INSERT_INTENTION h s.heap.size O S_w_X_INSERT_INTENTION) E_w_S (fun h O => rm4_3 l s _ hw w_S w_X_INSERT_INTENTION h s.heap.size O (F_intention_w_S.ext O.2) (F_keyLock_w_S.ext O.2) (F_keyLock_w_X_INSERT_INTENTION.ext O.2) (F_insertIntention_w_S.ext O.2) (F_insertIntention_w_X_INSERT_INTENTION.ext O.2))
      · exact law_1 l s _ hw tables_1 p1 p2 p3 (0 : Int32) (6 : Int32) (2 : Int32) (12 : Int32) w_S_REC_NOT_GAP w_X s.heap s.heap.size (Old.start s) h3 (fun h O => rm1_4 l s _ hw p1 h s.heap.size O h1) (fun h O => rm1_0 l s _ hw p2 h s.heap.size O h2) (fun h O => rm2_4 l s _ hw  h s.heap.size O ) (by decide) (fun h O => rm3_4 l s _ hw w_S_REC_NOT_GAP h s.heap.size O S_w_S_REC_NOT_GAP) (fun h O => rm3_0 l s _ hw w_X h s.heap.size O S_w_X) E_w_S_REC_NOT_GAP (fun h O => rm4_6 l s _ hw w_S_REC_NOT_GAP w_X h s.heap.size O (F_intention_w_S_REC_NOT_GAP.ext O.2) (F_keyLock_w_S_REC_NOT_GAP.ext O.2) (F_keyLock_w_X.ext O.2) (F_insertIntention_w_S_REC_NOT_GAP.ext O.2) (F_insertIntention_w_X.ext O.2) (F_coversTarget_w_S_REC_NOT_GAP.ext O.2) (F_coversTarget_w_X.ext O.2) (F_shared_w_S_REC_NOT_GAP.ext O.2) (F_shared_w_X.ext O.2))
      · exact law_1 l s _ hw tables_1 p1 p2 p3 (0 : Int32) (6 : Int32) (3 : Int32) (12 : Int32) w_S_REC_NOT_GAP w_X_REC_NOT_GAP s.heap s.heap.size (Old.start s) h3 (fun h O => rm1_4 l s _ hw p1 h s.heap.size O h1) (fun h O => rm1_1 l s _ hw p2 h s.heap.size O h2) (fun h O => rm2_4 l s _ hw  h s.heap.size O ) (by decide) (fun h O => rm3_4 l s _ hw w_S_REC_NOT_GAP h s.heap.size O S_w_S_REC_NOT_GAP) (fun h O => rm3_1 l s _ hw w_X_REC_NOT_GAP h s.heap.size O S_w_X_REC_NOT_GAP) E_w_S_REC_NOT_GAP (fun h O => rm4_6 l s _ hw w_S_REC_NOT_GAP w_X_REC_NOT_GAP h s.heap.size O (F_intention_w_S_REC_NOT_GAP.ext O.2) (F_keyLock_w_S_REC_NOT_GAP.ext O.2) (F_keyLock_w_X_REC_NOT_GAP.ext O.2) (F_insertIntention_w_S_REC_NOT_GAP.ext O.2) (F_insertIntention_w_X_REC_NOT_GAP.ext O.2) (F_coversTarget_w_S_REC_NOT_GAP.ext O.2) (F_coversTarget_w_X_REC_NOT_GAP.ext O.2) (F_shared_w_S_REC_NOT_GAP.ext O.2) (F_shared_w_X_REC_NOT_GAP.ext O.2))
      · exact law_0 l s _ hw tables_1 p1 p2 p3 (0 : Int32) (6 : Int32) (4 : Int32) (12 : Int32) w_S_REC_NOT_GAP w_X_GAP s.heap s.heap.size (Old.start s) h3 (fun h O => rm1_4 l s _ hw p1 h s.heap.size O h1) (fun h O => rm1_2 l s _ hw p2 h s.heap.size O h2) (fun h O => rm2_4 l s _ hw  h s.heap.size O ) (by decide) (fun h O => rm3_4 l s _ hw w_S_REC_NOT_GAP h s.heap.size O S_w_S_REC_NOT_GAP) (fun h O => rm3_2 l s _ hw w_X_GAP h s.heap.size O S_w_X_GAP) E_w_S_REC_NOT_GAP (fun h O => rm4_2 l s _ hw w_S_REC_NOT_GAP w_X_GAP h s.heap.size O (F_intention_w_S_REC_NOT_GAP.ext O.2) (F_keyLock_w_S_REC_NOT_GAP.ext O.2) (F_keyLock_w_X_GAP.ext O.2) (F_insertIntention_w_S_REC_NOT_GAP.ext O.2) (F_insertIntention_w_X_GAP.ext O.2) (F_coversTarget_w_S_REC_NOT_GAP.ext O.2) (F_coversTarget_w_X_GAP.ext O.2))
      · exact law_0 l s _ hw tables_1 p1 p2 p3 (0 : Int32) (6 : Int32) (5 : Int32) (12 : Int32) w_S_REC_NOT_GAP w_S s.heap s.heap.size (Old.start s) h3 (fun h O => rm1_4 l s _ hw p1 h s.heap.size O h1) (fun h O => rm1_3 l s _ hw p2 h s.heap.size O h2) (fun h O => rm2_4 l s _ hw  h s.heap.size O ) (by decide) (fun h O => rm3_4 l s _ hw w_S_REC_NOT_GAP h s.heap.size O S_w_S_REC_NOT_GAP) (fun h O => rm3_3 l s _ hw w_S h s.heap.size O S_w_S) E_w_S_REC_NOT_GAP (fun h O => rm4_8 l s _ hw w_S_REC_NOT_GAP w_S h s.heap.size O (F_intention_w_S_REC_NOT_GAP.ext O.2) (F_keyLock_w_S_REC_NOT_GAP.ext O.2) (F_keyLock_w_S.ext O.2) (F_insertIntention_w_S_REC_NOT_GAP.ext O.2) (F_insertIntention_w_S.ext O.2) (F_coversTarget_w_S_REC_NOT_GAP.ext O.2) (F_coversTarget_w_S.ext O.2) (F_shared_w_S_REC_NOT_GAP.ext O.2) (F_shared_w_S.ext O.2))
      · exact law_0 l s _ hw tables_1 p1 p2 p3 (0 : Int32) (6 : Int32) (6 : Int32) (12 : Int32) w_S_REC_NOT_GAP w_S_REC_NOT_GAP s.heap s.heap.size (Old.start s) h3 (fun h O => rm1_4 l s _ hw p1 h s.heap.size O h1) (fun h O => rm1_4 l s _ hw p2 h s.heap.size O h2) (fun h O => rm2_4 l s _ hw  h s.heap.size O ) (by decide) (fun h O => rm3_4 l s _ hw w_S_REC_NOT_GAP h s.heap.size O S_w_S_REC_NOT_GAP) (fun h O => rm3_4 l s _ hw w_S_REC_NOT_GAP h s.heap.size O S_w_S_REC_NOT_GAP) E_w_S_REC_NOT_GAP (fun h O => rm4_7 l s _ hw w_S_REC_NOT_GAP h s.heap.size O (F_intention_w_S_REC_NOT_GAP.ext O.2) (F_keyLock_w_S_REC_NOT_GAP.ext O.2) (F_insertIntention_w_S_REC_NOT_GAP.ext O.2) (F_coversTarget_w_S_REC_NOT_GAP.ext O.2) (F_shared_w_S_REC_NOT_GAP.ext O.2))
      · exact law_0 l s _ hw tables_1 p1 p2 p3 (0 : Int32) (6 : Int32) (7 : Int32) (12 : Int32) w_S_REC_NOT_GAP w_S_GAP s.heap s.heap.size (Old.start s) h3 (fun h O => rm1_4 l s _ hw p1 h s.heap.size O h1) (fun h O => rm1_5 l s _ hw p2 h s.heap.size O h2) (fun h O => rm2_4 l s _ hw  h s.heap.size O ) (by decide) (fun h O => rm3_4 l s _ hw w_S_REC_NOT_GAP h s.heap.size O S_w_S_REC_NOT_GAP) (fun h O => rm3_5 l s _ hw w_S_GAP h s.heap.size O S_w_S_GAP) E_w_S_REC_NOT_GAP (fun h O => rm4_2 l s _ hw w_S_REC_NOT_GAP w_S_GAP h s.heap.size O (F_intention_w_S_REC_NOT_GAP.ext O.2) (F_keyLock_w_S_REC_NOT_GAP.ext O.2) (F_keyLock_w_S_GAP.ext O.2) (F_insertIntention_w_S_REC_NOT_GAP.ext O.2) (F_insertIntention_w_S_GAP.ext O.2) (F_coversTarget_w_S_REC_NOT_GAP.ext O.2) (F_coversTarget_w_S_GAP.ext O.2))
      · exact law_0 l s _ hw tables_1 p1 p2 p3 (0 : Int32) (6 : Int32) (8 : Int32) (12 : Int32) w_S_REC_NOT_GAP w_X_INSERT_INTENTION s.heap s.heap.size (Old.start s) h3 (fun h O => rm1_4 l s _ hw p1 h s.heap.size O h1) (fun h O => rm1_6 l s _ hw p2 h s.heap.size O h2) (fun h O => rm2_4 l s _ hw  h s.heap.size O ) (by decide) (fun h O => rm3_4 l s _ hw w_S_REC_NOT_GAP h s.heap.size O S_w_S_REC_NOT_GAP) (fun h O => rm3_6 l s _ hw w_X_INSERT_INTENTION h s.heap.size O S_w_X_INSERT_INTENTION) E_w_S_REC_NOT_GAP (fun h O => rm4_3 l s _ hw w_S_REC_NOT_GAP w_X_INSERT_INTENTION h s.heap.size O (F_intention_w_S_REC_NOT_GAP.ext O.2) (F_keyLock_w_S_REC_NOT_GAP.ext O.2) (F_keyLock_w_X_INSERT_INTENTION.ext O.2) (F_insertIntention_w_S_REC_NOT_GAP.ext O.2) (F_insertIntention_w_X_INSERT_INTENTION.ext O.2))
      · exact law_0 l s _ hw tables_1 p1 p2 p3 (0 : Int32) (7 : Int32) (2 : Int32) (0 : Int32) w_S_GAP w_X s.heap s.heap.size (Old.start s) h3 (fun h O => rm1_5 l s _ hw p1 h s.heap.size O h1) (fun h O => rm1_0 l s _ hw p2 h s.heap.size O h2) (fun h O => rm2_5 l s _ hw  h s.heap.size O ) (by decide) (fun h O => rm3_5 l s _ hw w_S_GAP h s.heap.size O S_w_S_GAP) (fun h O => rm3_0 l s _ hw w_X h s.heap.size O S_w_X) E_w_S_GAP (fun h O => rm4_4 l s _ hw w_S_GAP w_X h s.heap.size O (F_intention_w_S_GAP.ext O.2) (F_keyLock_w_S_GAP.ext O.2) (F_keyLock_w_X.ext O.2) (F_insertIntention_w_S_GAP.ext O.2) (F_insertIntention_w_X.ext O.2) (F_coversTarget_w_S_GAP.ext O.2))
      · exact law_0 l s _ hw tables_1 p1 p2 p3 (0 : Int32) (7 : Int32) (3 : Int32) (0 : Int32) w_S_GAP w_X_REC_NOT_GAP s.heap s.heap.size (Old.start s) h3 (fun h O => rm1_5 l s _ hw p1 h s.heap.size O h1) (fun h O => rm1_1 l s _ hw p2 h s.heap.size O h2) (fun h O => rm2_5 l s _ hw  h s.heap.size O ) (by decide) (fun h O => rm3_5 l s _ hw w_S_GAP h s.heap.size O S_w_S_GAP) (fun h O => rm3_1 l s _ hw w_X_REC_NOT_GAP h s.heap.size O S_w_X_REC_NOT_GAP) E_w_S_GAP (fun h O => rm4_4 l s _ hw w_S_GAP w_X_REC_NOT_GAP h s.heap.size O (F_intention_w_S_GAP.ext O.2) (F_keyLock_w_S_GAP.ext O.2) (F_keyLock_w_X_REC_NOT_GAP.ext O.2) (F_insertIntention_w_S_GAP.ext O.2) (F_insertIntention_w_X_REC_NOT_GAP.ext O.2) (F_coversTarget_w_S_GAP.ext O.2))
      · exact law_0 l s _ hw tables_1 p1 p2 p3 (0 : Int32) (7 : Int32) (4 : Int32) (0 : Int32) w_S_GAP w_X_GAP s.heap s.heap.size (Old.start s) h3 (fun h O => rm1_5 l s _ hw p1 h s.heap.size O h1) (fun h O => rm1_2 l s _ hw p2 h s.heap.size O h2) (fun h O => rm2_5 l s _ hw  h s.heap.size O ) (by decide) (fun h O => rm3_5 l s _ hw w_S_GAP h s.heap.size O S_w_S_GAP) (fun h O => rm3_2 l s _ hw w_X_GAP h s.heap.size O S_w_X_GAP) E_w_S_GAP (fun h O => rm4_4 l s _ hw w_S_GAP w_X_GAP h s.heap.size O (F_intention_w_S_GAP.ext O.2) (F_keyLock_w_S_GAP.ext O.2) (F_keyLock_w_X_GAP.ext O.2) (F_insertIntention_w_S_GAP.ext O.2) (F_insertIntention_w_X_GAP.ext O.2) (F_coversTarget_w_S_GAP.ext O.2))
      · exact law_0 l s _ hw tables_1 p1 p2 p3 (0 : Int32) (7 : Int32) (5 : Int32) (0 : Int32) w_S_GAP w_S s.heap s.heap.size (Old.start s) h3 (fun h O => rm1_5 l s _ hw p1 h s.heap.size O h1) (fun h O => rm1_3 l s _ hw p2 h s.heap.size O h2) (fun h O => rm2_5 l s _ hw  h s.heap.size O ) (by decide) (fun h O => rm3_5 l s _ hw w_S_GAP h s.heap.size O S_w_S_GAP) (fun h O => rm3_3 l s _ hw w_S h s.heap.size O S_w_S) E_w_S_GAP (fun h O => rm4_4 l s _ hw w_S_GAP w_S h s.heap.size O (F_intention_w_S_GAP.ext O.2) (F_keyLock_w_S_GAP.ext O.2) (F_keyLock_w_S.ext O.2) (F_insertIntention_w_S_GAP.ext O.2) (F_insertIntention_w_S.ext O.2) (F_coversTarget_w_S_GAP.ext O.2))
      · exact law_0 l s _ hw tables_1 p1 p2 p3 (0 : Int32) (7 : Int32) (6 : Int32) (0 : Int32) w_S_GAP w_S_REC_NOT_GAP s.heap s.heap.size (Old.start s) h3 (fun h O => rm1_5 l s _ hw p1 h s.heap.size O h1) (fun h O => rm1_4 l s _ hw p2 h s.heap.size O h2) (fun h O => rm2_5 l s _ hw  h s.heap.size O ) (by decide) (fun h O => rm3_5 l s _ hw w_S_GAP h s.heap.size O S_w_S_GAP) (fun h O => rm3_4 l s _ hw w_S_REC_NOT_GAP h s.heap.size O S_w_S_REC_NOT_GAP) E_w_S_GAP (fun h O => rm4_4 l s _ hw w_S_GAP w_S_REC_NOT_GAP h s.heap.size O (F_intention_w_S_GAP.ext O.2) (F_keyLock_w_S_GAP.ext O.2) (F_keyLock_w_S_REC_NOT_GAP.ext O.2) (F_insertIntention_w_S_GAP.ext O.2) (F_insertIntention_w_S_REC_NOT_GAP.ext O.2) (F_coversTarget_w_S_GAP.ext O.2))
      · exact law_0 l s _ hw tables_1 p1 p2 p3 (0 : Int32) (7 : Int32) (7 : Int32) (0 : Int32) w_S_GAP w_S_GAP s.heap s.heap.size (Old.start s) h3 (fun h O => rm1_5 l s _ hw p1 h s.heap.size O h1) (fun h O => rm1_5 l s _ hw p2 h s.heap.size O h2) (fun h O => rm2_5 l s _ hw  h s.heap.size O ) (by decide) (fun h O => rm3_5 l s _ hw w_S_GAP h s.heap.size O S_w_S_GAP) (fun h O => rm3_5 l s _ hw w_S_GAP h s.heap.size O S_w_S_GAP) E_w_S_GAP (fun h O => rm4_5 l s _ hw w_S_GAP h s.heap.size O (F_intention_w_S_GAP.ext O.2) (F_keyLock_w_S_GAP.ext O.2) (F_insertIntention_w_S_GAP.ext O.2) (F_coversTarget_w_S_GAP.ext O.2))
      · exact law_0 l s _ hw tables_1 p1 p2 p3 (0 : Int32) (7 : Int32) (8 : Int32) (0 : Int32) w_S_GAP w_X_INSERT_INTENTION s.heap s.heap.size (Old.start s) h3 (fun h O => rm1_5 l s _ hw p1 h s.heap.size O h1) (fun h O => rm1_6 l s _ hw p2 h s.heap.size O h2) (fun h O => rm2_5 l s _ hw  h s.heap.size O ) (by decide) (fun h O => rm3_5 l s _ hw w_S_GAP h s.heap.size O S_w_S_GAP) (fun h O => rm3_6 l s _ hw w_X_INSERT_INTENTION h s.heap.size O S_w_X_INSERT_INTENTION) E_w_S_GAP (fun h O => rm4_3 l s _ hw w_S_GAP w_X_INSERT_INTENTION h s.heap.size O (F_intention_w_S_GAP.ext O.2) (F_keyLock_w_S_GAP.ext O.2) (F_keyLock_w_X_INSERT_INTENTION.ext O.2) (F_insertIntention_w_S_GAP.ext O.2) (F_insertIntention_w_X_INSERT_INTENTION.ext O.2))
      · exact law_1 l s _ hw tables_1 p1 p2 p3 (0 : Int32) (8 : Int32) (2 : Int32) (180 : Int32) w_X_INSERT_INTENTION w_X s.heap s.heap.size (Old.start s) h3 (fun h O => rm1_6 l s _ hw p1 h s.heap.size O h1) (fun h O => rm1_0 l s _ hw p2 h s.heap.size O h2) (fun h O => rm2_6 l s _ hw  h s.heap.size O ) (by decide) (fun h O => rm3_6 l s _ hw w_X_INSERT_INTENTION h s.heap.size O S_w_X_INSERT_INTENTION) (fun h O => rm3_0 l s _ hw w_X h s.heap.size O S_w_X) E_w_X_INSERT_INTENTION (fun h O => rm4_9 l s _ hw w_X_INSERT_INTENTION w_X h s.heap.size O (F_intention_w_X_INSERT_INTENTION.ext O.2) (F_keyLock_w_X_INSERT_INTENTION.ext O.2) (F_keyLock_w_X.ext O.2) (F_insertIntention_w_X_INSERT_INTENTION.ext O.2) (F_coversGap_w_X.ext O.2) (F_insertIntention_w_X.ext O.2))
      · exact law_0 l s _ hw tables_1 p1 p2 p3 (0 : Int32) (8 : Int32) (3 : Int32) (180 : Int32) w_X_INSERT_INTENTION w_X_REC_NOT_GAP s.heap s.heap.size (Old.start s) h3 (fun h O => rm1_6 l s _ hw p1 h s.heap.size O h1) (fun h O => rm1_1 l s _ hw p2 h s.heap.size O h2) (fun h O => rm2_6 l s _ hw  h s.heap.size O ) (by decide) (fun h O => rm3_6 l s _ hw w_X_INSERT_INTENTION h s.heap.size O S_w_X_INSERT_INTENTION) (fun h O => rm3_1 l s _ hw w_X_REC_NOT_GAP h s.heap.size O S_w_X_REC_NOT_GAP) E_w_X_INSERT_INTENTION (fun h O => rm4_10 l s _ hw w_X_INSERT_INTENTION w_X_REC_NOT_GAP h s.heap.size O (F_intention_w_X_INSERT_INTENTION.ext O.2) (F_keyLock_w_X_INSERT_INTENTION.ext O.2) (F_keyLock_w_X_REC_NOT_GAP.ext O.2) (F_insertIntention_w_X_INSERT_INTENTION.ext O.2) (F_coversGap_w_X_REC_NOT_GAP.ext O.2))
      · exact law_1 l s _ hw tables_1 p1 p2 p3 (0 : Int32) (8 : Int32) (4 : Int32) (180 : Int32) w_X_INSERT_INTENTION w_X_GAP s.heap s.heap.size (Old.start s) h3 (fun h O => rm1_6 l s _ hw p1 h s.heap.size O h1) (fun h O => rm1_2 l s _ hw p2 h s.heap.size O h2) (fun h O => rm2_6 l s _ hw  h s.heap.size O ) (by decide) (fun h O => rm3_6 l s _ hw w_X_INSERT_INTENTION h s.heap.size O S_w_X_INSERT_INTENTION) (fun h O => rm3_2 l s _ hw w_X_GAP h s.heap.size O S_w_X_GAP) E_w_X_INSERT_INTENTION (fun h O => rm4_9 l s _ hw w_X_INSERT_INTENTION w_X_GAP h s.heap.size O (F_intention_w_X_INSERT_INTENTION.ext O.2) (F_keyLock_w_X_INSERT_INTENTION.ext O.2) (F_keyLock_w_X_GAP.ext O.2) (F_insertIntention_w_X_INSERT_INTENTION.ext O.2) (F_coversGap_w_X_GAP.ext O.2) (F_insertIntention_w_X_GAP.ext O.2))
      · exact law_1 l s _ hw tables_1 p1 p2 p3 (0 : Int32) (8 : Int32) (5 : Int32) (180 : Int32) w_X_INSERT_INTENTION w_S s.heap s.heap.size (Old.start s) h3 (fun h O => rm1_6 l s _ hw p1 h s.heap.size O h1) (fun h O => rm1_3 l s _ hw p2 h s.heap.size O h2) (fun h O => rm2_6 l s _ hw  h s.heap.size O ) (by decide) (fun h O => rm3_6 l s _ hw w_X_INSERT_INTENTION h s.heap.size O S_w_X_INSERT_INTENTION) (fun h O => rm3_3 l s _ hw w_S h s.heap.size O S_w_S) E_w_X_INSERT_INTENTION (fun h O => rm4_9 l s _ hw w_X_INSERT_INTENTION w_S h s.heap.size O (F_intention_w_X_INSERT_INTENTION.ext O.2) (F_keyLock_w_X_INSERT_INTENTION.ext O.2) (F_keyLock_w_S.ext O.2) (F_insertIntention_w_X_INSERT_INTENTION.ext O.2) (F_coversGap_w_S.ext O.2) (F_insertIntention_w_S.ext O.2))
      · exact law_0 l s _ hw tables_1 p1 p2 p3 (0 : Int32) (8 : Int32) (6 : Int32) (180 : Int32) w_X_INSERT_INTENTION w_S_REC_NOT_GAP s.heap s.heap.size (Old.start s) h3 (fun h O => rm1_6 l s _ hw p1 h s.heap.size O h1) (fun h O => rm1_4 l s _ hw p2 h s.heap.size O h2) (fun h O => rm2_6 l s _ hw  h s.heap.size O ) (by decide) (fun h O => rm3_6 l s _ hw w_X_INSERT_INTENTION h s.heap.size O S_w_X_INSERT_INTENTION) (fun h O => rm3_4 l s _ hw w_S_REC_NOT_GAP h s.heap.size O S_w_S_REC_NOT_GAP) E_w_X_INSERT_INTENTION (fun h O => rm4_10 l s _ hw w_X_INSERT_INTENTION w_S_REC_NOT_GAP h s.heap.size O (F_intention_w_X_INSERT_INTENTION.ext O.2) (F_keyLock_w_X_INSERT_INTENTION.ext O.2) (F_keyLock_w_S_REC_NOT_GAP.ext O.2) (F_insertIntention_w_X_INSERT_INTENTION.ext O.2) (F_coversGap_w_S_REC_NOT_GAP.ext O.2))
      · exact law_1 l s _ hw tables_1 p1 p2 p3 (0 : Int32) (8 : Int32) (7 : Int32) (180 : Int32) w_X_INSERT_INTENTION w_S_GAP s.heap s.heap.size (Old.start s) h3 (fun h O => rm1_6 l s _ hw p1 h s.heap.size O h1) (fun h O => rm1_5 l s _ hw p2 h s.heap.size O h2) (fun h O => rm2_6 l s _ hw  h s.heap.size O ) (by decide) (fun h O => rm3_6 l s _ hw w_X_INSERT_INTENTION h s.heap.size O S_w_X_INSERT_INTENTION) (fun h O => rm3_5 l s _ hw w_S_GAP h s.heap.size O S_w_S_GAP) E_w_X_INSERT_INTENTION (fun h O => rm4_9 l s _ hw w_X_INSERT_INTENTION w_S_GAP h s.heap.size O (F_intention_w_X_INSERT_INTENTION.ext O.2) (F_keyLock_w_X_INSERT_INTENTION.ext O.2) (F_keyLock_w_S_GAP.ext O.2) (F_insertIntention_w_X_INSERT_INTENTION.ext O.2) (F_coversGap_w_S_GAP.ext O.2) (F_insertIntention_w_S_GAP.ext O.2))
      · exact law_0 l s _ hw tables_1 p1 p2 p3 (0 : Int32) (8 : Int32) (8 : Int32) (180 : Int32) w_X_INSERT_INTENTION w_X_INSERT_INTENTION s.heap s.heap.size (Old.start s) h3 (fun h O => rm1_6 l s _ hw p1 h s.heap.size O h1) (fun h O => rm1_6 l s _ hw p2 h s.heap.size O h2) (fun h O => rm2_6 l s _ hw  h s.heap.size O ) (by decide) (fun h O => rm3_6 l s _ hw w_X_INSERT_INTENTION h s.heap.size O S_w_X_INSERT_INTENTION) (fun h O => rm3_6 l s _ hw w_X_INSERT_INTENTION h s.heap.size O S_w_X_INSERT_INTENTION) E_w_X_INSERT_INTENTION (fun h O => rm4_11 l s _ hw w_X_INSERT_INTENTION h s.heap.size O (F_intention_w_X_INSERT_INTENTION.ext O.2) (F_keyLock_w_X_INSERT_INTENTION.ext O.2) (F_insertIntention_w_X_INSERT_INTENTION.ext O.2) (F_coversGap_w_X_INSERT_INTENTION.ext O.2))
    · rcases hc_p1_3 with h1 | h1 | h1 <;> rcases hc_p2_3 with h2 | h2 | h2
      · exact law_0 l s _ hw tables_1 p1 p2 p3 (1 : Int32) (0 : Int32) (0 : Int32) (0 : Int32) w_IX w_IX s.heap s.heap.size (Old.start s) h3 (fun h O => rm1_7 l s _ hw p1 h s.heap.size O h1) (fun h O => rm1_7 l s _ hw p2 h s.heap.size O h2) (fun h O => rm2_7 l s _ hw  h s.heap.size O ) (by decide) (fun h O => rm3_7 l s _ hw w_IX h s.heap.size O S_w_IX) (fun h O => rm3_7 l s _ hw w_IX h s.heap.size O S_w_IX) E_w_IX (fun h O => rm4_12 l s _ hw w_IX h s.heap.size O (F_intention_w_IX.ext O.2))
      · exact law_0 l s _ hw tables_1 p1 p2 p3 (1 : Int32) (0 : Int32) (1 : Int32) (0 : Int32) w_IX w_IS s.heap s.heap.size (Old.start s) h3 (fun h O => rm1_7 l s _ hw p1 h s.heap.size O h1) (fun h O => rm1_8 l s _ hw p2 h s.heap.size O h2) (fun h O => rm2_7 l s _ hw  h s.heap.size O ) (by decide) (fun h O => rm3_7 l s _ hw w_IX h s.heap.size O S_w_IX) (fun h O => rm3_8 l s _ hw w_IS h s.heap.size O S_w_IS) E_w_IX (fun h O => rm4_13 l s _ hw w_IX w_IS h s.heap.size O (F_intention_w_IX.ext O.2) (F_intention_w_IS.ext O.2))
      · exact law_0 l s _ hw tables_1 p1 p2 p3 (1 : Int32) (0 : Int32) (9 : Int32) (0 : Int32) w_IX w_AUTO_INC s.heap s.heap.size (Old.start s) h3 (fun h O => rm1_7 l s _ hw p1 h s.heap.size O h1) (fun h O => rm1_9 l s _ hw p2 h s.heap.size O h2) (fun h O => rm2_7 l s _ hw  h s.heap.size O ) (by decide) (fun h O => rm3_7 l s _ hw w_IX h s.heap.size O S_w_IX) (fun h O => rm3_9 l s _ hw w_AUTO_INC h s.heap.size O S_w_AUTO_INC) E_w_IX (fun h O => rm4_14 l s _ hw w_IX w_AUTO_INC h s.heap.size O (F_intention_w_IX.ext O.2) (F_intention_w_AUTO_INC.ext O.2) (F_keyLock_w_IX.ext O.2) (F_keyLock_w_AUTO_INC.ext O.2))
      · exact law_0 l s _ hw tables_1 p1 p2 p3 (1 : Int32) (1 : Int32) (0 : Int32) (0 : Int32) w_IS w_IX s.heap s.heap.size (Old.start s) h3 (fun h O => rm1_8 l s _ hw p1 h s.heap.size O h1) (fun h O => rm1_7 l s _ hw p2 h s.heap.size O h2) (fun h O => rm2_8 l s _ hw  h s.heap.size O ) (by decide) (fun h O => rm3_8 l s _ hw w_IS h s.heap.size O S_w_IS) (fun h O => rm3_7 l s _ hw w_IX h s.heap.size O S_w_IX) E_w_IS (fun h O => rm4_13 l s _ hw w_IS w_IX h s.heap.size O (F_intention_w_IS.ext O.2) (F_intention_w_IX.ext O.2))
      · exact law_0 l s _ hw tables_1 p1 p2 p3 (1 : Int32) (1 : Int32) (1 : Int32) (0 : Int32) w_IS w_IS s.heap s.heap.size (Old.start s) h3 (fun h O => rm1_8 l s _ hw p1 h s.heap.size O h1) (fun h O => rm1_8 l s _ hw p2 h s.heap.size O h2) (fun h O => rm2_8 l s _ hw  h s.heap.size O ) (by decide) (fun h O => rm3_8 l s _ hw w_IS h s.heap.size O S_w_IS) (fun h O => rm3_8 l s _ hw w_IS h s.heap.size O S_w_IS) E_w_IS (fun h O => rm4_12 l s _ hw w_IS h s.heap.size O (F_intention_w_IS.ext O.2))
      · exact law_0 l s _ hw tables_1 p1 p2 p3 (1 : Int32) (1 : Int32) (9 : Int32) (0 : Int32) w_IS w_AUTO_INC s.heap s.heap.size (Old.start s) h3 (fun h O => rm1_8 l s _ hw p1 h s.heap.size O h1) (fun h O => rm1_9 l s _ hw p2 h s.heap.size O h2) (fun h O => rm2_8 l s _ hw  h s.heap.size O ) (by decide) (fun h O => rm3_8 l s _ hw w_IS h s.heap.size O S_w_IS) (fun h O => rm3_9 l s _ hw w_AUTO_INC h s.heap.size O S_w_AUTO_INC) E_w_IS (fun h O => rm4_14 l s _ hw w_IS w_AUTO_INC h s.heap.size O (F_intention_w_IS.ext O.2) (F_intention_w_AUTO_INC.ext O.2) (F_keyLock_w_IS.ext O.2) (F_keyLock_w_AUTO_INC.ext O.2))
      · exact law_0 l s _ hw tables_1 p1 p2 p3 (1 : Int32) (9 : Int32) (0 : Int32) (512 : Int32) w_AUTO_INC w_IX s.heap s.heap.size (Old.start s) h3 (fun h O => rm1_9 l s _ hw p1 h s.heap.size O h1) (fun h O => rm1_7 l s _ hw p2 h s.heap.size O h2) (fun h O => rm2_9 l s _ hw  h s.heap.size O ) (by decide) (fun h O => rm3_9 l s _ hw w_AUTO_INC h s.heap.size O S_w_AUTO_INC) (fun h O => rm3_7 l s _ hw w_IX h s.heap.size O S_w_IX) E_w_AUTO_INC (fun h O => rm4_15 l s _ hw w_AUTO_INC w_IX h s.heap.size O (F_intention_w_AUTO_INC.ext O.2) (F_keyLock_w_AUTO_INC.ext O.2) (F_intention_w_IX.ext O.2))
      · exact law_0 l s _ hw tables_1 p1 p2 p3 (1 : Int32) (9 : Int32) (1 : Int32) (512 : Int32) w_AUTO_INC w_IS s.heap s.heap.size (Old.start s) h3 (fun h O => rm1_9 l s _ hw p1 h s.heap.size O h1) (fun h O => rm1_8 l s _ hw p2 h s.heap.size O h2) (fun h O => rm2_9 l s _ hw  h s.heap.size O ) (by decide) (fun h O => rm3_9 l s _ hw w_AUTO_INC h s.heap.size O S_w_AUTO_INC) (fun h O => rm3_8 l s _ hw w_IS h s.heap.size O S_w_IS) E_w_AUTO_INC (fun h O => rm4_15 l s _ hw w_AUTO_INC w_IS h s.heap.size O (F_intention_w_AUTO_INC.ext O.2) (F_keyLock_w_AUTO_INC.ext O.2) (F_intention_w_IS.ext O.2))
      · exact law_1 l s _ hw tables_1 p1 p2 p3 (1 : Int32) (9 : Int32) (9 : Int32) (512 : Int32) w_AUTO_INC w_AUTO_INC s.heap s.heap.size (Old.start s) h3 (fun h O => rm1_9 l s _ hw p1 h s.heap.size O h1) (fun h O => rm1_9 l s _ hw p2 h s.heap.size O h2) (fun h O => rm2_9 l s _ hw  h s.heap.size O ) (by decide) (fun h O => rm3_9 l s _ hw w_AUTO_INC h s.heap.size O S_w_AUTO_INC) (fun h O => rm3_9 l s _ hw w_AUTO_INC h s.heap.size O S_w_AUTO_INC) E_w_AUTO_INC (fun h O => rm4_16 l s _ hw w_AUTO_INC h s.heap.size O (F_intention_w_AUTO_INC.ext O.2) (F_keyLock_w_AUTO_INC.ext O.2))
  obtain ⟨n, o, h1, h2, h3, _, L, rfl, ⟨rfl, N⟩, hq⟩ := key p e ha hc hk s m _ below hf ((Spec.applies_iff_loose hf).mp happ).1 ⟨rfl, State.Warmed39.refl s, rfl⟩ trivial
  refine ⟨n, _, h1, h2, h3, hpost _ _ _ _ _ _ ⟨Cond.after_iff.mpr rfl, Cond.after_iff.mpr (eq_i res_at (Term.int_eval (1)) rfl), trivial⟩ ⟨hq.1, hq.2.1, (hq.2.2.sift fun y hy => Or.inr (N y hy)).mono (by decide) (by decide)⟩⟩
theorem main_1_1 : Claimed_1_1 := comes_1 fun _ _ _ _ _ _ h hF => ⟨h.1, hF⟩
theorem main_1_2 : Claimed_1_2 := comes_1 fun _ _ _ _ _ _ h hF => ⟨h.2.1, hF⟩
end Jvm.Pilot.@@N@@
namespace Jvm.Pilot.@@N@@
open Jvm Jvm.ClassFile Sem Op Lib Jvm.Free Jvm.Stand Jvm.Pilot.@@N@@.Jvm.D
/-! MADE BY PROGRAM (witnessworld.py) out of the Statement's table words and the real class files: 10 classes; the members and pool entries that the words name. The judged class is class 1, her method 4. -/
namespace start1
open Jvm.ClassFile
def u (s : String) : CpInfo := .utf8 (stringToUtf16 s)
/-- a pool by its gaps: so many unusable entries, then the entry; so many at the end -/
def gap : Nat → List CpInfo → List CpInfo
  | 0, r => r
  | n + 1, r => .unusable :: gap n r
def poolList (es : List (Nat × CpInfo)) (last : Nat) : List CpInfo := es.foldr (fun e r => gap e.1 (e.2 :: r)) (gap last [])
def pool (es : List (Nat × CpInfo)) (last : Nat) : Array CpInfo := ⟨poolList es last⟩
def fileOf (pool : Array CpInfo) (this : Nat) (attrs : Array Attribute := #[]) (ms : Array MethodInfo := #[]) (fl : Nat := 33) (sup : Nat := 0) (ifs : Array Nat := #[]) (fds : Array FieldInfo := #[]) : ClassFile where
  minorVersion := 0
  majorVersion := 65
  constantPool := pool
  accessFlags := fl
  thisClass := this
  superClass := sup
  interfaces := ifs
  fields := fds
  methods := ms
  attributes := attrs
def plain (name : String) (sup : Option ClassId) : Class where
  name := name
  kind := .ordinary
  loader := none
  accessFlags := 33
  super := sup
  interfaces := #[]
  cf := none
  fields := #[]
  methods := #[]
  instanceTypes := #[]
  staticTypes := #[]
  resolved := #[]
  callSites := []
  init := .initialized
  statics := none
  mirror := none

def pool0 : Array CpInfo := pool [(5, u "<init>"), (0, u "()V"), (1, .class_ 10), (1, u "java/lang/Object")] 113

def k0m0 : Method := { name := "<init>", desc := "()V", sig := { parameters := [], returnType := none }, accessFlags := 1, code := none }
/-- java/lang/Object -/
def k0 : Class := { plain "java/lang/Object" none with
  accessFlags := 33
  interfaces := #[]
  cf := some (fileOf pool0 8 #[] #[{ accessFlags := 1, nameIndex := 5, descriptorIndex := 6, attributes := #[] }] 33 0 #[] #[])
  fields := #[]
  methods := #[k0m0]
  instanceTypes := #[]
  staticTypes := #[]
  resolved := Array.replicate 124 none
  statics := none }

def pool1 : Array CpInfo := pool [(2, .class_ 4), (1, u "java/lang/Object"), (0, u "<init>"), (0, u "()V"), (0, .integer 2147483647), (0, .fieldref 9 10), (0, .class_ 11), (0, .nameAndType 12 13), (0, u "com/example/key_warden/keywarden/engine/LockMode"), (0, u "IX"), (0, u "Lcom/example/key_warden/keywarden/engine/LockMode;"), (0, .fieldref 9 15), (0, .nameAndType 16 13), (0, u "IS"), (0, .fieldref 9 18), (0, .nameAndType 19 13), (0, u "X"), (0, .fieldref 9 21), (0, .nameAndType 22 13), (0, u "X_REC_NOT_GAP"), (0, .fieldref 9 24), (0, .nameAndType 25 13), (0, u "X_GAP"), (0, .fieldref 9 27), (0, .nameAndType 28 13), (0, u "S"), (0, .fieldref 9 30), (0, .nameAndType 31 13), (0, u "S_REC_NOT_GAP"), (0, .fieldref 9 33), (0, .nameAndType 34 13), (0, u "S_GAP"), (0, .fieldref 9 36), (0, .nameAndType 37 13), (0, u "X_INSERT_INTENTION"), (0, .fieldref 9 39), (0, .nameAndType 40 13), (0, u "AUTO_INC"), (0, .methodref 42 43), (0, .class_ 44), (0, .nameAndType 45 46), (0, u "com/example/key_warden/keywarden/engine/LockModeConflictsWithPinLaw"), (0, u "pick"), (0, u "(II)I"), (0, .methodref 42 48), (0, .nameAndType 49 50), (0, u "row"), (0, u "(I)I"), (0, .methodref 42 52), (0, .nameAndType 53 54), (0, u "mode"), (0, u "(I)Lcom/example/key_warden/keywarden/engine/LockMode;"), (0, .methodref 9 56), (0, .nameAndType 57 58), (0, u "conflictsWith"), (0, u "(Lcom/example/key_warden/keywarden/engine/LockMode;)Z"), (3, u "law"), (0, u "(III)Z")] 2

def k1m0 : Method := { name := "<init>", desc := "()V", sig := { parameters := [], returnType := none }, accessFlags := 1, code := none }
def k1c1 : Code := { maxStack := 3, maxLocals := 4, code := method_2_code, exceptionTable := #[], attributes := #[] }
def k1m1 : Method := { name := "pick", desc := "(II)I", sig := { parameters := [.int, .int], returnType := some .int }, accessFlags := 10, code := some k1c1 }
def k1c2 : Code := { maxStack := 2, maxLocals := 1, code := method_3_code, exceptionTable := #[], attributes := #[] }
def k1m2 : Method := { name := "mode", desc := "(I)Lcom/example/key_warden/keywarden/engine/LockMode;", sig := { parameters := [.int], returnType := some (.object "com/example/key_warden/keywarden/engine/LockMode") }, accessFlags := 10, code := some k1c2 }
def k1c3 : Code := { maxStack := 2, maxLocals := 1, code := method_4_code, exceptionTable := #[], attributes := #[] }
def k1m3 : Method := { name := "row", desc := "(I)I", sig := { parameters := [.int], returnType := some .int }, accessFlags := 10, code := some k1c3 }
def k1c4 : Code := { maxStack := 2, maxLocals := 7, code := code, exceptionTable := #[], attributes := #[] }
def k1m4 : Method := { name := "law", desc := "(III)Z", sig := { parameters := [.int, .int, .int], returnType := some .boolean }, accessFlags := 9, code := some k1c4 }
/-- com/example/key_warden/keywarden/engine/LockModeConflictsWithPinLaw -/
def k1 : Class := { plain "com/example/key_warden/keywarden/engine/LockModeConflictsWithPinLaw" (some 0) with
  accessFlags := 49
  interfaces := #[]
  cf := some (fileOf pool1 42 #[] #[{ accessFlags := 1, nameIndex := 5, descriptorIndex := 6, attributes := #[] }, { accessFlags := 10, nameIndex := 45, descriptorIndex := 46, attributes := #[] }, { accessFlags := 10, nameIndex := 53, descriptorIndex := 54, attributes := #[] }, { accessFlags := 10, nameIndex := 49, descriptorIndex := 50, attributes := #[] }, { accessFlags := 9, nameIndex := 62, descriptorIndex := 63, attributes := #[] }] 49 2 #[] #[])
  fields := #[]
  methods := #[k1m0, k1m1, k1m2, k1m3, k1m4]
  instanceTypes := #[]
  staticTypes := #[]
  resolved := Array.replicate 66 none
  statics := none }

def pool2 : Array CpInfo := pool [(1, .class_ 2), (0, u "java/lang/constant/Constable"), (0, .class_ 4), (0, u "java/lang/Object")] 6

/-- java/lang/constant/Constable -/
def k2 : Class := { plain "java/lang/constant/Constable" (some 0) with
  accessFlags := 1537
  interfaces := #[]
  cf := some (fileOf pool2 1 #[] #[] 1537 3 #[] #[])
  fields := #[]
  methods := #[]
  instanceTypes := #[]
  staticTypes := #[]
  resolved := Array.replicate 11 none
  statics := none }

def pool3 : Array CpInfo := pool [(1, .class_ 2), (0, u "java/lang/Comparable"), (0, .class_ 4), (0, u "java/lang/Object")] 7

/-- java/lang/Comparable -/
def k3 : Class := { plain "java/lang/Comparable" (some 0) with
  accessFlags := 1537
  interfaces := #[]
  cf := some (fileOf pool3 1 #[] #[] 1537 3 #[] #[])
  fields := #[]
  methods := #[]
  instanceTypes := #[]
  staticTypes := #[]
  resolved := Array.replicate 12 none
  statics := none }

def pool4 : Array CpInfo := pool [(1, .class_ 2), (0, u "java/io/Serializable"), (0, .class_ 4), (0, u "java/lang/Object")] 2

/-- java/io/Serializable -/
def k4 : Class := { plain "java/io/Serializable" (some 0) with
  accessFlags := 1537
  interfaces := #[]
  cf := some (fileOf pool4 1 #[] #[] 1537 3 #[] #[])
  fields := #[]
  methods := #[]
  instanceTypes := #[]
  staticTypes := #[]
  resolved := Array.replicate 7 none
  statics := none }

def pool5 : Array CpInfo := pool [(2, .class_ 4), (1, u "java/lang/Enum"), (0, u "name"), (0, u "Ljava/lang/String;"), (2, u "ordinal"), (0, u "I"), (1, .class_ 14), (1, u "java/lang/Object"), (4, u "hash"), (86, .class_ 108), (1, u "java/lang/Enum$EnumDesc"), (2, .class_ 112), (0, u "java/lang/constant/Constable"), (0, .class_ 114), (0, u "java/lang/Comparable"), (0, .class_ 116), (0, u "java/io/Serializable")] 87

/-- java/lang/Enum -/
def k5 : Class := { plain "java/lang/Enum" (some 0) with
  accessFlags := 1057
  interfaces := #[2, 3, 4]
  cf := some (fileOf pool5 2 #[.nestMembers #[106]] #[] 1057 12 #[111, 113, 115] #[{ accessFlags := 18, nameIndex := 5, descriptorIndex := 6, attributes := #[] }, { accessFlags := 18, nameIndex := 9, descriptorIndex := 10, attributes := #[] }, { accessFlags := 2, nameIndex := 19, descriptorIndex := 10, attributes := #[] }])
  fields := #[{ name := "name", type := (.object "java/lang/String"), accessFlags := 18, slot := 0, constantValue := 0 }, { name := "ordinal", type := .int, accessFlags := 18, slot := 1, constantValue := 0 }, { name := "hash", type := .int, accessFlags := 2, slot := 2, constantValue := 0 }]
  methods := #[]
  instanceTypes := #[(.object "java/lang/String"), .int, .int]
  staticTypes := #[]
  resolved := Array.replicate 204 none
  statics := none }

def pool6 : Array CpInfo := pool [(1, .class_ 2), (0, u "com/example/key_warden/keywarden/engine/LockMode"), (2, u "IX"), (0, u "Lcom/example/key_warden/keywarden/engine/LockMode;"), (2, u "IS"), (2, u "X"), (2, u "X_REC_NOT_GAP"), (2, u "X_GAP"), (2, u "S"), (2, u "S_REC_NOT_GAP"), (2, u "S_GAP"), (2, u "X_INSERT_INTENTION"), (2, u "AUTO_INC"), (2, u "$VALUES"), (0, u "[Lcom/example/key_warden/keywarden/engine/LockMode;"), (6, .class_ 46), (1, u "java/lang/Enum"), (8, u "text"), (0, u "Ljava/lang/String;"), (2, u "supremumText"), (0, .fieldref 1 61), (0, .nameAndType 62 63), (0, u "intention"), (0, u "Z"), (0, .fieldref 1 65), (0, .nameAndType 66 63), (0, u "shared"), (0, .fieldref 1 68), (0, .nameAndType 69 63), (0, u "coversTarget"), (0, .fieldref 1 71), (0, .nameAndType 72 63), (0, u "coversGap"), (0, .fieldref 1 74), (0, .nameAndType 75 63), (0, u "insertIntention"), (0, .fieldref 1 77), (0, .nameAndType 78 63), (0, u "keyLock"), (51, u "conflictsWith"), (0, u "(Lcom/example/key_warden/keywarden/engine/LockMode;)Z")] 21

def k6c0 : Code := { maxStack := 1, maxLocals := 3, code := prog_26_method_6_code, exceptionTable := #[], attributes := #[] }
def k6m0 : Method := { name := "conflictsWith", desc := "(Lcom/example/key_warden/keywarden/engine/LockMode;)Z", sig := { parameters := [(.object "com/example/key_warden/keywarden/engine/LockMode")], returnType := some .boolean }, accessFlags := 0, code := some k6c0 }
/-- com/example/key_warden/keywarden/engine/LockMode -/
def k6 : Class := { plain "com/example/key_warden/keywarden/engine/LockMode" (some 5) with
  accessFlags := 16433
  interfaces := #[]
  cf := some (fileOf pool6 1 #[] #[{ accessFlags := 0, nameIndex := 130, descriptorIndex := 131, attributes := #[] }] 16433 44 #[] #[{ accessFlags := 16409, nameIndex := 5, descriptorIndex := 6, attributes := #[] }, { accessFlags := 16409, nameIndex := 9, descriptorIndex := 6, attributes := #[] }, { accessFlags := 16409, nameIndex := 12, descriptorIndex := 6, attributes := #[] }, { accessFlags := 16409, nameIndex := 15, descriptorIndex := 6, attributes := #[] }, { accessFlags := 16409, nameIndex := 18, descriptorIndex := 6, attributes := #[] }, { accessFlags := 16409, nameIndex := 21, descriptorIndex := 6, attributes := #[] }, { accessFlags := 16409, nameIndex := 24, descriptorIndex := 6, attributes := #[] }, { accessFlags := 16409, nameIndex := 27, descriptorIndex := 6, attributes := #[] }, { accessFlags := 16409, nameIndex := 30, descriptorIndex := 6, attributes := #[] }, { accessFlags := 16409, nameIndex := 33, descriptorIndex := 6, attributes := #[] }, { accessFlags := 18, nameIndex := 55, descriptorIndex := 56, attributes := #[] }, { accessFlags := 18, nameIndex := 59, descriptorIndex := 56, attributes := #[] }, { accessFlags := 18, nameIndex := 62, descriptorIndex := 63, attributes := #[] }, { accessFlags := 18, nameIndex := 66, descriptorIndex := 63, attributes := #[] }, { accessFlags := 18, nameIndex := 69, descriptorIndex := 63, attributes := #[] }, { accessFlags := 18, nameIndex := 72, descriptorIndex := 63, attributes := #[] }, { accessFlags := 18, nameIndex := 75, descriptorIndex := 63, attributes := #[] }, { accessFlags := 18, nameIndex := 78, descriptorIndex := 63, attributes := #[] }, { accessFlags := 4122, nameIndex := 36, descriptorIndex := 37, attributes := #[] }])
  fields := #[{ name := "IX", type := (.object "com/example/key_warden/keywarden/engine/LockMode"), accessFlags := 16409, slot := 0, constantValue := 0 }, { name := "IS", type := (.object "com/example/key_warden/keywarden/engine/LockMode"), accessFlags := 16409, slot := 1, constantValue := 0 }, { name := "X", type := (.object "com/example/key_warden/keywarden/engine/LockMode"), accessFlags := 16409, slot := 2, constantValue := 0 }, { name := "X_REC_NOT_GAP", type := (.object "com/example/key_warden/keywarden/engine/LockMode"), accessFlags := 16409, slot := 3, constantValue := 0 }, { name := "X_GAP", type := (.object "com/example/key_warden/keywarden/engine/LockMode"), accessFlags := 16409, slot := 4, constantValue := 0 }, { name := "S", type := (.object "com/example/key_warden/keywarden/engine/LockMode"), accessFlags := 16409, slot := 5, constantValue := 0 }, { name := "S_REC_NOT_GAP", type := (.object "com/example/key_warden/keywarden/engine/LockMode"), accessFlags := 16409, slot := 6, constantValue := 0 }, { name := "S_GAP", type := (.object "com/example/key_warden/keywarden/engine/LockMode"), accessFlags := 16409, slot := 7, constantValue := 0 }, { name := "X_INSERT_INTENTION", type := (.object "com/example/key_warden/keywarden/engine/LockMode"), accessFlags := 16409, slot := 8, constantValue := 0 }, { name := "AUTO_INC", type := (.object "com/example/key_warden/keywarden/engine/LockMode"), accessFlags := 16409, slot := 9, constantValue := 0 }, { name := "text", type := (.object "java/lang/String"), accessFlags := 18, slot := 3, constantValue := 0 }, { name := "supremumText", type := (.object "java/lang/String"), accessFlags := 18, slot := 4, constantValue := 0 }, { name := "intention", type := .boolean, accessFlags := 18, slot := 5, constantValue := 0 }, { name := "shared", type := .boolean, accessFlags := 18, slot := 6, constantValue := 0 }, { name := "coversTarget", type := .boolean, accessFlags := 18, slot := 7, constantValue := 0 }, { name := "coversGap", type := .boolean, accessFlags := 18, slot := 8, constantValue := 0 }, { name := "insertIntention", type := .boolean, accessFlags := 18, slot := 9, constantValue := 0 }, { name := "keyLock", type := .boolean, accessFlags := 18, slot := 10, constantValue := 0 }, { name := "$VALUES", type := (.array (.object "com/example/key_warden/keywarden/engine/LockMode")), accessFlags := 4122, slot := 10, constantValue := 0 }]
  methods := #[k6m0]
  instanceTypes := #[(.object "java/lang/String"), .int, .int, (.object "java/lang/String"), (.object "java/lang/String"), .boolean, .boolean, .boolean, .boolean, .boolean, .boolean]
  staticTypes := #[(.object "com/example/key_warden/keywarden/engine/LockMode"), (.object "com/example/key_warden/keywarden/engine/LockMode"), (.object "com/example/key_warden/keywarden/engine/LockMode"), (.object "com/example/key_warden/keywarden/engine/LockMode"), (.object "com/example/key_warden/keywarden/engine/LockMode"), (.object "com/example/key_warden/keywarden/engine/LockMode"), (.object "com/example/key_warden/keywarden/engine/LockMode"), (.object "com/example/key_warden/keywarden/engine/LockMode"), (.object "com/example/key_warden/keywarden/engine/LockMode"), (.object "com/example/key_warden/keywarden/engine/LockMode"), (.array (.object "com/example/key_warden/keywarden/engine/LockMode"))]
  resolved := Array.replicate 153 none
  statics := some 0 }

def pool7 : Array CpInfo := pool [(1, u "java/lang/Cloneable"), (0, .class_ 1), (0, u "java/lang/Object"), (0, .class_ 3)] 3

/-- java/lang/Cloneable -/
def k7 : Class := { plain "java/lang/Cloneable" (some 0) with
  accessFlags := 1537
  interfaces := #[]
  cf := some (fileOf pool7 2 #[] #[] 1537 4 #[] #[])
  fields := #[]
  methods := #[]
  instanceTypes := #[]
  staticTypes := #[]
  resolved := Array.replicate 8 none
  statics := none }

/-- the primitive byte -/
def k8 : Class := { plain "byte" none with kind := .primitive 'B', accessFlags := 0x411 }
/-- [B -/
def k9 : Class := { plain "[B" (some 0) with kind := .array 8 .byte, interfaces := #[7, 4], accessFlags := 1041 }

def heap : Heap := #[{ cls := 6, slots := #[.ref 4, .ref 3, .ref 1, .ref 6, .ref 7, .ref 2, .ref 8, .ref 9, .ref 10, .ref 5, .null], vm := .statics 6 },
  { cls := 6, slots := #[.null, .int 0, .int 0, .null, .null, .int 0, .int 0, .int 1, .int 1, .int 0, .int 0], vm := .none },
  { cls := 6, slots := #[.null, .int 0, .int 0, .null, .null, .int 0, .int 1, .int 1, .int 1, .int 0, .int 0], vm := .none },
  { cls := 6, slots := #[.null, .int 0, .int 0, .null, .null, .int 1, .int 1, .int 1, .int 0, .int 0, .int 0], vm := .none },
  { cls := 6, slots := #[.null, .int 0, .int 0, .null, .null, .int 1, .int 0, .int 1, .int 0, .int 0, .int 0], vm := .none },
  { cls := 6, slots := #[.null, .int 0, .int 0, .null, .null, .int 0, .int 0, .int 1, .int 0, .int 0, .int 1], vm := .none },
  { cls := 6, slots := #[.null, .int 0, .int 0, .null, .null, .int 0, .int 0, .int 1, .int 0, .int 0, .int 0], vm := .none },
  { cls := 6, slots := #[.null, .int 0, .int 0, .null, .null, .int 0, .int 0, .int 0, .int 1, .int 0, .int 0], vm := .none },
  { cls := 6, slots := #[.null, .int 0, .int 0, .null, .null, .int 0, .int 1, .int 1, .int 0, .int 0, .int 0], vm := .none },
  { cls := 6, slots := #[.null, .int 0, .int 0, .null, .null, .int 0, .int 1, .int 0, .int 1, .int 0, .int 0], vm := .none },
  { cls := 6, slots := #[.null, .int 0, .int 0, .null, .null, .int 0, .int 0, .int 0, .int 1, .int 1, .int 0], vm := .none }]
def classes : Array Class := #[k0, k1, k2, k3, k4, k5, k6, k7, k8, k9]
def interned : List (Array UInt16 × Addr) := []
def slotsUsed : Nat := 121
def theMethod : MethodId := ⟨1, 4⟩
def args0 : Array Value := #[.int 5, .int 6, .int 7]
def aboutOver (below : List Frame) : State where
  vm := { classes := classes, interned := interned.toArray }
  heap := heap
  slotsUsed := slotsUsed
  threads := #[{ frames := .invoking theMethod args0 :: below }]
def below0 : List Frame := [.native { method := ⟨0, 0⟩, args := #[] }]
def about1 : State := aboutOver below0
def p0 : Program := .bare "" "" ""
def e0 : Env := launch0.env 0 0 0
theorem w_frames : about1.frames = Frame.invoking theMethod args0 :: below0 := rfl
set_option maxRecDepth 65536 in
theorem w_args : argsFit about1.vm theMethod args0 = true := by decide +kernel
set_option maxRecDepth 65536 in
theorem w_heap : heapFits about1 = true := by decide +kernel
set_option maxRecDepth 65536 in
theorem w_runnable : about1.curStatus? = some .runnable := by decide +kernel
set_option maxRecDepth 65536 in
theorem w_alone : about1.alone = true := by decide +kernel
set_option maxRecDepth 65536 in
theorem w_named : about1.methodNamed? x = some theMethod := by decide +kernel
set_option maxRecDepth 65536 in
theorem w_hears : about1.hears theMethod below0 = true := by decide +kernel
set_option maxRecDepth 65536 in
theorem w_ripe : about1.ripe theMethod args0 below0 = true := by decide +kernel
theorem w_running : about1.status = .running := rfl
set_option maxRecDepth 65536 in
theorem w_room : about1.hasRoom e0.platform room_1 = true :=
  launch0.hasRoom_least _ room_1 (by decide +kernel) (by decide +kernel) (by decide +kernel) (by decide +kernel) (by decide +kernel) (by decide +kernel)
theorem allAtoms_all (ts : List Jvm.Cond) (a : Array Jvm.Value) (st : Jvm.State) : (allAtoms ts).before a st = ts.all (fun c => c.before a st) := by
  induction ts with
  | nil => rfl
  | cons c t ih =>
    show (Jvm.Cond.and c (allAtoms t)).before a st = _
    rw [Jvm.Cond.before_and, ih, List.all_cons]
def words1 : List Jvm.Cond := Jvm.Cond.code x code maxLocals ret :: tables_1
/-- a 'code' word, met by the world's own term for the bytes: nothing is compared byte by byte -/
theorem code_word {y : MethodName} {bytes : ByteArray} {mx : Nat} {rt : Option FieldType} {a : Array Value} {s : State} {m : MethodId} {meth : Method} {c : Code} (h1 : s.methodNamed? y = some m) (h2 : s.vm.method? m = some meth) (h3 : meth.code = some c) (h4 : c.code = bytes)
    (h5 : (c.maxLocals == mx && c.exceptionTable.isEmpty && decide (c.maxStack ≤ mostOperands) && decide (meth.sig.returnType = rt) && !meth.locks && decide (parseMethodDescriptor y.desc = some meth.sig)) = true) : (Jvm.Cond.code y bytes mx rt).before a s = true := by
  simp only [Bool.and_eq_true, beq_iff_eq, Bool.not_eq_true', decide_eq_true_eq] at h5
  obtain ⟨⟨⟨⟨⟨g1, g2⟩, g3⟩, g4⟩, g5⟩, g6⟩ := h5
  simp [Cond.before, Cond.holds, Cond.value, h1, h2, h3, h4, g1, g2, g3, g4, g5, g6]
def isCode : Jvm.Cond → Bool
  | .code _ _ _ _ => true
  | _ => false
theorem all_split {L : List Jvm.Cond} {P : Jvm.Cond → Bool} (h1 : L.all (fun c => isCode c || P c) = true) (h2 : ∀ c ∈ L.filter isCode, P c = true) : L.all P = true := by
  refine List.all_eq_true.mpr fun c hc => ?_
  have h := List.all_eq_true.mp h1 c hc
  rcases Bool.eq_false_or_eq_true (isCode c) with hi | hi
  · exact h2 c (List.mem_filter.mpr ⟨hc, hi⟩)
  · simpa [hi] using h
set_option maxRecDepth 65536 in
theorem w_c0 : (Jvm.Cond.code x code maxLocals ret).before args0 about1 = true := code_word (m := ⟨1, 4⟩) (meth := k1m4) (c := k1c4) (by decide +kernel) rfl rfl rfl (by decide +kernel)
set_option maxRecDepth 65536 in
theorem w_c1 : (Jvm.Cond.code ({ cls := "com/example/key_warden/keywarden/engine/LockModeConflictsWithPinLaw", name := "pick", desc := "(II)I" } : Jvm.MethodName) method_2_code (4 : Nat) (Option.some Jvm.ClassFile.FieldType.int)).before args0 about1 = true := code_word (m := ⟨1, 1⟩) (meth := k1m1) (c := k1c1) (by decide +kernel) rfl rfl rfl (by decide +kernel)
set_option maxRecDepth 65536 in
theorem w_c2 : (Jvm.Cond.code ({ cls := "com/example/key_warden/keywarden/engine/LockModeConflictsWithPinLaw", name := "row", desc := "(I)I" } : Jvm.MethodName) method_4_code (1 : Nat) (Option.some Jvm.ClassFile.FieldType.int)).before args0 about1 = true := code_word (m := ⟨1, 3⟩) (meth := k1m3) (c := k1c3) (by decide +kernel) rfl rfl rfl (by decide +kernel)
set_option maxRecDepth 65536 in
theorem w_c3 : (Jvm.Cond.code ({ cls := "com/example/key_warden/keywarden/engine/LockModeConflictsWithPinLaw", name := "mode", desc := "(I)Lcom/example/key_warden/keywarden/engine/LockMode;" } : Jvm.MethodName) method_3_code (1 : Nat) (Option.some (Jvm.ClassFile.FieldType.object "com/example/key_warden/keywarden/engine/LockMode"))).before args0 about1 = true := code_word (m := ⟨1, 2⟩) (meth := k1m2) (c := k1c2) (by decide +kernel) rfl rfl rfl (by decide +kernel)
set_option maxRecDepth 65536 in
theorem w_c4 : (Jvm.Cond.code ({ cls := "com/example/key_warden/keywarden/engine/LockMode", name := "conflictsWith", desc := "(Lcom/example/key_warden/keywarden/engine/LockMode;)Z" } : Jvm.MethodName) prog_26_method_6_code (3 : Nat) (Option.some Jvm.ClassFile.FieldType.boolean)).before args0 about1 = true := code_word (m := ⟨6, 0⟩) (meth := k6m0) (c := k6c0) (by decide +kernel) rfl rfl rfl (by decide +kernel)
def codes1 : List Jvm.Cond := [Jvm.Cond.code x code maxLocals ret, Jvm.Cond.code ({ cls := "com/example/key_warden/keywarden/engine/LockModeConflictsWithPinLaw", name := "pick", desc := "(II)I" } : Jvm.MethodName) method_2_code (4 : Nat) (Option.some Jvm.ClassFile.FieldType.int), Jvm.Cond.code ({ cls := "com/example/key_warden/keywarden/engine/LockModeConflictsWithPinLaw", name := "row", desc := "(I)I" } : Jvm.MethodName) method_4_code (1 : Nat) (Option.some Jvm.ClassFile.FieldType.int), Jvm.Cond.code ({ cls := "com/example/key_warden/keywarden/engine/LockModeConflictsWithPinLaw", name := "mode", desc := "(I)Lcom/example/key_warden/keywarden/engine/LockMode;" } : Jvm.MethodName) method_3_code (1 : Nat) (Option.some (Jvm.ClassFile.FieldType.object "com/example/key_warden/keywarden/engine/LockMode")), Jvm.Cond.code ({ cls := "com/example/key_warden/keywarden/engine/LockMode", name := "conflictsWith", desc := "(Lcom/example/key_warden/keywarden/engine/LockMode;)Z" } : Jvm.MethodName) prog_26_method_6_code (3 : Nat) (Option.some Jvm.ClassFile.FieldType.boolean)]
set_option maxRecDepth 65536 in
theorem codes_eq : words1.filter isCode = codes1 := rfl
theorem w_codes : ∀ c ∈ words1.filter isCode, c.before args0 about1 = true := by
  rw [codes_eq]
  intro c hc
  simp only [codes1, List.mem_cons, List.not_mem_nil, or_false] at hc
  rcases hc with rfl | rfl | rfl | rfl | rfl
  · exact w_c0
  · exact w_c1
  · exact w_c2
  · exact w_c3
  · exact w_c4
set_option maxRecDepth 65536 in
theorem w_t1 : (words1.take 24).all (fun c => isCode c || c.before args0 about1) = true := by decide +kernel
set_option maxRecDepth 65536 in
theorem w_t2 : ((words1.drop 24).take 24).all (fun c => isCode c || c.before args0 about1) = true := by decide +kernel
set_option maxRecDepth 65536 in
theorem w_t3 : ((words1.drop 24).drop 24).all (fun c => isCode c || c.before args0 about1) = true := by decide +kernel
theorem w_tables : (allAtoms (Jvm.Cond.code x code maxLocals ret :: tables_1)).before args0 about1 = true := by
  rw [allAtoms_all]
  show words1.all (fun c => c.before args0 about1) = true
  refine all_split ?_ w_codes
  rw [← List.take_append_drop 24 words1, List.all_append, w_t1, ← List.take_append_drop 24 (words1.drop 24), List.all_append, w_t2, w_t3]
  rfl
set_option maxRecDepth 65536 in
theorem w_case : (Jvm.Cond.and given_1 narrow_1).before args0 about1 = true := by decide +kernel
theorem w_applies : (headSpec (Jvm.Cond.code x code maxLocals ret :: tables_1) room_1).applies x e0.platform about1 = true :=
  (Spec.applies_iff w_frames).mpr ⟨w_running, w_runnable, w_alone, w_named, w_hears, w_ripe, w_room, w_tables⟩
theorem atStart : AtStart classFile x code maxLocals ret World_1 tables_1 room_1 Calls_1 rest_1 Pre_1 launch0 p0 e0 about1 theMethod args0 below0 :=
  ⟨lists_1, trivial, launch0.admits_env _ _ _, launch0.least_env, fairChoices_fair.cas, fairChoices_fair.clock, w_frames, w_args, w_heap, w_applies, trivial, trivial, w_case⟩
end start1
theorem witness_1 : WitnessClaimed_1 := ⟨start1.p0, start1.e0, start1.about1, start1.theMethod, start1.args0, start1.below0, start1.atStart⟩
end Jvm.Pilot.@@N@@
