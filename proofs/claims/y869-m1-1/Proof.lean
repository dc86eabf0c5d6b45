import JvmDerived
import JvmDerived.Pilot.@@N@@Statement
import JvmDerived.Pilot.@@N@@Code
set_option linter.unusedVariables false
set_option linter.unusedSimpArgs false
namespace Jvm.RoadKit
open Sem ClassFile Op Lib Jvm.Stand Jvm.Free Jvm.LawKit
section New
variable {p : Program} {l : Launch} {e : Env} {R : Room} {s : State} {m : MethodId} {args : Array Value} {below : List Frame} {meth : Method} {c : Code} {T : State} {locs : List Loc} {cells slots : Nat}
theorem retI (X : Stand p l e R s m args below meth c T locs cells slots) (hx : p.tables.exec = Jvm.exec) {pc : Nat} {Ls : Array Slot} {z : Int32} {rest : List Value} (hret : meth.sig.returnType = some .int) (hd : decode c.code pc = .ok (.ireturn, 1)) {fs : List Frame}
    (hl : ∀ (f : JFrame) (acts : List Action), f.method = m → f.locked = none → f.entered = [] → (doReturn e (T.setTop f) acts (some (.int z))).1 = T.setFrames fs) : Steps p.tables e below (T.setTop (mkF m pc Ls (.int z :: rest))) (T.setFrames fs) :=
  retOut X hx hret rfl (Or.inl ⟨rfl, Or.inl rfl, z, rfl⟩) hd hl
theorem retL (X : Stand p l e R s m args below meth c T locs cells slots) (hx : p.tables.exec = Jvm.exec) {pc : Nat} {Ls : Array Slot} {z : Int64} {rest : List Value} (hret : meth.sig.returnType = some .long) (hd : decode c.code pc = .ok (.lreturn, 1)) {fs : List Frame}
    (hl : ∀ (f : JFrame) (acts : List Action), f.method = m → f.locked = none → f.entered = [] → (doReturn e (T.setTop f) acts (some (.long z))).1 = T.setFrames fs) : Steps p.tables e below (T.setTop (mkF m pc Ls (.long z :: rest))) (T.setFrames fs) :=
  retOut X hx hret rfl (Or.inr (Or.inl ⟨rfl, rfl, z, rfl⟩)) hd hl
theorem retA (X : Stand p l e R s m args below meth c T locs cells slots) (hx : p.tables.exec = Jvm.exec) {pc : Nat} {Ls : Array Slot} {t : FieldType} {w : Value} {rest : List Value} (hret : meth.sig.returnType = some t) (ht : t.isReference = true) (hw : w.isRef = true) (hn : narrow t w = w) (hd : decode c.code pc = .ok (.areturn, 1)) {fs : List Frame}
    (hl : ∀ (f : JFrame) (acts : List Action), f.method = m → f.locked = none → f.entered = [] → (doReturn e (T.setTop f) acts (some w)).1 = T.setFrames fs) : Steps p.tables e below (T.setTop (mkF m pc Ls (w :: rest))) (T.setFrames fs) :=
  retOut X hx hret hn (Or.inr (Or.inr (Or.inr (Or.inr ⟨rfl, ht, hw⟩)))) hd hl
end New
theorem own_fld {args : Array Value} {s : State} {t : Term} {C n d : String} {k : Int32} {w : Addr} (h : (Cond.eq (Term.field t C n d) (Term.int k)).value args s none s [] = some true) (ev : t.eval args s none [] s = some (.ref w)) : Fld s s.heap w C n d (.int k) := by
  have e1 : (Term.field t C n d).eval args s none [] s = s.fieldOf? w C n d := fld_at ev
  have e2 : (Term.int k).eval args s none [] s = some (.int k) := rfl
  obtain ⟨x, y, ex, ey, k1, k2⟩ := cmp_v (Or.inl h)
  cases e2.symm.trans ey
  obtain ⟨z, rfl⟩ := k2
  have q : z = k := gotT (P := z = k) (Cond.eq_ints ex e2) h
  subst q
  exact Fld.start (e1.symm.trans ex)
end Jvm.RoadKit
namespace Jvm.Pilot.@@N@@
open Jvm Jvm.ClassFile Sem Op Lib Jvm.Free Jvm.Stand Jvm.LawKit Jvm.RoadKit Bundle Jvm.Pilot.@@N@@.Jvm.D
def own_QP (r : Option Value) (n0 : Nat) (h0 : Heap) (v : Option Value) (h : Heap) (L : List Loc) : Prop := v = r ∧ Fr n0 L ∧ h = h0
def own_Q1 (n0 : Nat) (v : Option Value) (h : Heap) (L : List Loc) : Prop := v = some (.int (1 : Int32)) ∧ Fr n0 L

theorem d1_0 : decode method_2_code 0 = .ok (.bipush 10, 2) := by decide +kernel
theorem d1_2 : decode method_2_code 2 = .ok (.anewarray 7, 3) := by decide +kernel
theorem d1_5 : decode method_2_code 5 = .ok (.dup, 1) := by decide +kernel
theorem d1_6 : decode method_2_code 6 = .ok (.iconst 0, 1) := by decide +kernel
theorem d1_7 : decode method_2_code 7 = .ok (.getstatic 9, 3) := by decide +kernel
theorem d1_10 : decode method_2_code 10 = .ok (.aastore, 1) := by decide +kernel
theorem d1_11 : decode method_2_code 11 = .ok (.dup, 1) := by decide +kernel
theorem d1_12 : decode method_2_code 12 = .ok (.iconst 1, 1) := by decide +kernel
theorem d1_13 : decode method_2_code 13 = .ok (.getstatic 13, 3) := by decide +kernel
theorem d1_16 : decode method_2_code 16 = .ok (.aastore, 1) := by decide +kernel
theorem d1_17 : decode method_2_code 17 = .ok (.dup, 1) := by decide +kernel
theorem d1_18 : decode method_2_code 18 = .ok (.iconst 2, 1) := by decide +kernel
theorem d1_19 : decode method_2_code 19 = .ok (.getstatic 16, 3) := by decide +kernel
theorem d1_22 : decode method_2_code 22 = .ok (.aastore, 1) := by decide +kernel
theorem d1_23 : decode method_2_code 23 = .ok (.dup, 1) := by decide +kernel
theorem d1_24 : decode method_2_code 24 = .ok (.iconst 3, 1) := by decide +kernel
theorem d1_25 : decode method_2_code 25 = .ok (.getstatic 19, 3) := by decide +kernel
theorem d1_28 : decode method_2_code 28 = .ok (.aastore, 1) := by decide +kernel
theorem d1_29 : decode method_2_code 29 = .ok (.dup, 1) := by decide +kernel
theorem d1_30 : decode method_2_code 30 = .ok (.iconst 4, 1) := by decide +kernel
theorem d1_31 : decode method_2_code 31 = .ok (.getstatic 22, 3) := by decide +kernel
theorem d1_34 : decode method_2_code 34 = .ok (.aastore, 1) := by decide +kernel
theorem d1_35 : decode method_2_code 35 = .ok (.dup, 1) := by decide +kernel
theorem d1_36 : decode method_2_code 36 = .ok (.iconst 5, 1) := by decide +kernel
theorem d1_37 : decode method_2_code 37 = .ok (.getstatic 25, 3) := by decide +kernel
theorem d1_40 : decode method_2_code 40 = .ok (.aastore, 1) := by decide +kernel
theorem d1_41 : decode method_2_code 41 = .ok (.dup, 1) := by decide +kernel
theorem d1_42 : decode method_2_code 42 = .ok (.bipush 6, 2) := by decide +kernel
theorem d1_44 : decode method_2_code 44 = .ok (.getstatic 28, 3) := by decide +kernel
theorem d1_47 : decode method_2_code 47 = .ok (.aastore, 1) := by decide +kernel
theorem d1_48 : decode method_2_code 48 = .ok (.dup, 1) := by decide +kernel
theorem d1_49 : decode method_2_code 49 = .ok (.bipush 7, 2) := by decide +kernel
theorem d1_51 : decode method_2_code 51 = .ok (.getstatic 31, 3) := by decide +kernel
theorem d1_54 : decode method_2_code 54 = .ok (.aastore, 1) := by decide +kernel
theorem d1_55 : decode method_2_code 55 = .ok (.dup, 1) := by decide +kernel
theorem d1_56 : decode method_2_code 56 = .ok (.bipush 8, 2) := by decide +kernel
theorem d1_58 : decode method_2_code 58 = .ok (.getstatic 34, 3) := by decide +kernel
theorem d1_61 : decode method_2_code 61 = .ok (.aastore, 1) := by decide +kernel
theorem d1_62 : decode method_2_code 62 = .ok (.dup, 1) := by decide +kernel
theorem d1_63 : decode method_2_code 63 = .ok (.bipush 9, 2) := by decide +kernel
theorem d1_65 : decode method_2_code 65 = .ok (.getstatic 37, 3) := by decide +kernel
theorem d1_68 : decode method_2_code 68 = .ok (.aastore, 1) := by decide +kernel
theorem d1_69 : decode method_2_code 69 = .ok (.astore_n 1, 1) := by decide +kernel
theorem d1_70 : decode method_2_code 70 = .ok (.aload_n 1, 1) := by decide +kernel
theorem d1_71 : decode method_2_code 71 = .ok (.iload_n 0, 1) := by decide +kernel
theorem d1_72 : decode method_2_code 72 = .ok (.aaload, 1) := by decide +kernel
theorem d1_73 : decode method_2_code 73 = .ok (.areturn, 1) := by decide +kernel
theorem d2_0 : decode prog_26_method_7_code 0 = .ok (.aload_n 0, 1) := by decide +kernel
theorem d2_1 : decode prog_26_method_7_code 1 = .ok (.getfield 73, 3) := by decide +kernel
theorem d2_4 : decode prog_26_method_7_code 4 = .ok (.ifCond .ne 10, 3) := by decide +kernel
theorem d2_7 : decode prog_26_method_7_code 7 = .ok (.aload_n 1, 1) := by decide +kernel
theorem d2_8 : decode prog_26_method_7_code 8 = .ok (.getfield 73, 3) := by decide +kernel
theorem d2_11 : decode prog_26_method_7_code 11 = .ok (.ifCond .eq 8, 3) := by decide +kernel
theorem d2_14 : decode prog_26_method_7_code 14 = .ok (.iconst 0, 1) := by decide +kernel
theorem d2_15 : decode prog_26_method_7_code 15 = .ok (.istore_n 2, 1) := by decide +kernel
theorem d2_16 : decode prog_26_method_7_code 16 = .ok (.goto 131, 3) := by decide +kernel
theorem d2_19 : decode prog_26_method_7_code 19 = .ok (.aload_n 0, 1) := by decide +kernel
theorem d2_20 : decode prog_26_method_7_code 20 = .ok (.aload_n 1, 1) := by decide +kernel
theorem d2_21 : decode prog_26_method_7_code 21 = .ok (.if_acmp .ne 8, 3) := by decide +kernel
theorem d2_24 : decode prog_26_method_7_code 24 = .ok (.iconst 1, 1) := by decide +kernel
theorem d2_25 : decode prog_26_method_7_code 25 = .ok (.istore_n 2, 1) := by decide +kernel
theorem d2_26 : decode prog_26_method_7_code 26 = .ok (.goto 121, 3) := by decide +kernel
theorem d2_29 : decode prog_26_method_7_code 29 = .ok (.aload_n 0, 1) := by decide +kernel
theorem d2_30 : decode prog_26_method_7_code 30 = .ok (.getfield 76, 3) := by decide +kernel
theorem d2_33 : decode prog_26_method_7_code 33 = .ok (.ifCond .ne 10, 3) := by decide +kernel
theorem d2_36 : decode prog_26_method_7_code 36 = .ok (.aload_n 1, 1) := by decide +kernel
theorem d2_37 : decode prog_26_method_7_code 37 = .ok (.getfield 76, 3) := by decide +kernel
theorem d2_40 : decode prog_26_method_7_code 40 = .ok (.ifCond .eq 8, 3) := by decide +kernel
theorem d2_43 : decode prog_26_method_7_code 43 = .ok (.iconst 0, 1) := by decide +kernel
theorem d2_44 : decode prog_26_method_7_code 44 = .ok (.istore_n 2, 1) := by decide +kernel
theorem d2_45 : decode prog_26_method_7_code 45 = .ok (.goto 102, 3) := by decide +kernel
theorem d2_48 : decode prog_26_method_7_code 48 = .ok (.aload_n 0, 1) := by decide +kernel
theorem d2_49 : decode prog_26_method_7_code 49 = .ok (.getfield 60, 3) := by decide +kernel
theorem d2_52 : decode prog_26_method_7_code 52 = .ok (.ifCond .ne 10, 3) := by decide +kernel
theorem d2_55 : decode prog_26_method_7_code 55 = .ok (.aload_n 1, 1) := by decide +kernel
theorem d2_56 : decode prog_26_method_7_code 56 = .ok (.getfield 60, 3) := by decide +kernel
theorem d2_59 : decode prog_26_method_7_code 59 = .ok (.ifCond .eq 40, 3) := by decide +kernel
theorem d2_62 : decode prog_26_method_7_code 62 = .ok (.aload_n 0, 1) := by decide +kernel
theorem d2_63 : decode prog_26_method_7_code 63 = .ok (.getfield 60, 3) := by decide +kernel
theorem d2_66 : decode prog_26_method_7_code 66 = .ok (.ifCond .eq 28, 3) := by decide +kernel
theorem d2_69 : decode prog_26_method_7_code 69 = .ok (.aload_n 1, 1) := by decide +kernel
theorem d2_70 : decode prog_26_method_7_code 70 = .ok (.getfield 60, 3) := by decide +kernel
theorem d2_73 : decode prog_26_method_7_code 73 = .ok (.ifCond .eq 21, 3) := by decide +kernel
theorem d2_76 : decode prog_26_method_7_code 76 = .ok (.aload_n 0, 1) := by decide +kernel
theorem d2_77 : decode prog_26_method_7_code 77 = .ok (.getfield 64, 3) := by decide +kernel
theorem d2_80 : decode prog_26_method_7_code 80 = .ok (.ifCond .eq 10, 3) := by decide +kernel
theorem d2_83 : decode prog_26_method_7_code 83 = .ok (.aload_n 1, 1) := by decide +kernel
theorem d2_84 : decode prog_26_method_7_code 84 = .ok (.getfield 64, 3) := by decide +kernel
theorem d2_87 : decode prog_26_method_7_code 87 = .ok (.ifCond .eq 7, 3) := by decide +kernel
theorem d2_90 : decode prog_26_method_7_code 90 = .ok (.iconst 1, 1) := by decide +kernel
theorem d2_91 : decode prog_26_method_7_code 91 = .ok (.goto 4, 3) := by decide +kernel
theorem d2_94 : decode prog_26_method_7_code 94 = .ok (.iconst 0, 1) := by decide +kernel
theorem d2_95 : decode prog_26_method_7_code 95 = .ok (.istore_n 2, 1) := by decide +kernel
theorem d2_96 : decode prog_26_method_7_code 96 = .ok (.goto 51, 3) := by decide +kernel
theorem d2_99 : decode prog_26_method_7_code 99 = .ok (.aload_n 0, 1) := by decide +kernel
theorem d2_100 : decode prog_26_method_7_code 100 = .ok (.getfield 64, 3) := by decide +kernel
theorem d2_103 : decode prog_26_method_7_code 103 = .ok (.ifCond .eq 10, 3) := by decide +kernel
theorem d2_106 : decode prog_26_method_7_code 106 = .ok (.aload_n 1, 1) := by decide +kernel
theorem d2_107 : decode prog_26_method_7_code 107 = .ok (.getfield 64, 3) := by decide +kernel
theorem d2_110 : decode prog_26_method_7_code 110 = .ok (.ifCond .eq 35, 3) := by decide +kernel
theorem d2_113 : decode prog_26_method_7_code 113 = .ok (.aload_n 0, 1) := by decide +kernel
theorem d2_114 : decode prog_26_method_7_code 114 = .ok (.getfield 67, 3) := by decide +kernel
theorem d2_117 : decode prog_26_method_7_code 117 = .ok (.ifCond .ne 10, 3) := by decide +kernel
theorem d2_120 : decode prog_26_method_7_code 120 = .ok (.aload_n 1, 1) := by decide +kernel
theorem d2_121 : decode prog_26_method_7_code 121 = .ok (.getfield 67, 3) := by decide +kernel
theorem d2_124 : decode prog_26_method_7_code 124 = .ok (.ifCond .ne 21, 3) := by decide +kernel
theorem d2_127 : decode prog_26_method_7_code 127 = .ok (.aload_n 0, 1) := by decide +kernel
theorem d2_128 : decode prog_26_method_7_code 128 = .ok (.getfield 70, 3) := by decide +kernel
theorem d2_131 : decode prog_26_method_7_code 131 = .ok (.ifCond .ne 10, 3) := by decide +kernel
theorem d2_134 : decode prog_26_method_7_code 134 = .ok (.aload_n 1, 1) := by decide +kernel
theorem d2_135 : decode prog_26_method_7_code 135 = .ok (.getfield 70, 3) := by decide +kernel
theorem d2_138 : decode prog_26_method_7_code 138 = .ok (.ifCond .ne 7, 3) := by decide +kernel
theorem d2_141 : decode prog_26_method_7_code 141 = .ok (.iconst 1, 1) := by decide +kernel
theorem d2_142 : decode prog_26_method_7_code 142 = .ok (.goto 4, 3) := by decide +kernel
theorem d2_145 : decode prog_26_method_7_code 145 = .ok (.iconst 0, 1) := by decide +kernel
theorem d2_146 : decode prog_26_method_7_code 146 = .ok (.istore_n 2, 1) := by decide +kernel
theorem d2_147 : decode prog_26_method_7_code 147 = .ok (.iload_n 2, 1) := by decide +kernel
theorem d2_148 : decode prog_26_method_7_code 148 = .ok (.ireturn, 1) := by decide +kernel
theorem d3_0 : decode method_3_code 0 = .ok (.bipush 10, 2) := by decide +kernel
theorem d3_2 : decode method_3_code 2 = .ok (.newarray .int, 2) := by decide +kernel
theorem d3_4 : decode method_3_code 4 = .ok (.dup, 1) := by decide +kernel
theorem d3_5 : decode method_3_code 5 = .ok (.iconst 0, 1) := by decide +kernel
theorem d3_6 : decode method_3_code 6 = .ok (.iconst 3, 1) := by decide +kernel
theorem d3_7 : decode method_3_code 7 = .ok (.iastore, 1) := by decide +kernel
theorem d3_8 : decode method_3_code 8 = .ok (.dup, 1) := by decide +kernel
theorem d3_9 : decode method_3_code 9 = .ok (.iconst 1, 1) := by decide +kernel
theorem d3_10 : decode method_3_code 10 = .ok (.iconst 2, 1) := by decide +kernel
theorem d3_11 : decode method_3_code 11 = .ok (.iastore, 1) := by decide +kernel
theorem d3_12 : decode method_3_code 12 = .ok (.dup, 1) := by decide +kernel
theorem d3_13 : decode method_3_code 13 = .ok (.iconst 2, 1) := by decide +kernel
theorem d3_14 : decode method_3_code 14 = .ok (.sipush 252, 3) := by decide +kernel
theorem d3_17 : decode method_3_code 17 = .ok (.iastore, 1) := by decide +kernel
theorem d3_18 : decode method_3_code 18 = .ok (.dup, 1) := by decide +kernel
theorem d3_19 : decode method_3_code 19 = .ok (.iconst 3, 1) := by decide +kernel
theorem d3_20 : decode method_3_code 20 = .ok (.bipush 72, 2) := by decide +kernel
theorem d3_22 : decode method_3_code 22 = .ok (.iastore, 1) := by decide +kernel
theorem d3_23 : decode method_3_code 23 = .ok (.dup, 1) := by decide +kernel
theorem d3_24 : decode method_3_code 24 = .ok (.iconst 4, 1) := by decide +kernel
theorem d3_25 : decode method_3_code 25 = .ok (.sipush 144, 3) := by decide +kernel
theorem d3_28 : decode method_3_code 28 = .ok (.iastore, 1) := by decide +kernel
theorem d3_29 : decode method_3_code 29 = .ok (.dup, 1) := by decide +kernel
theorem d3_30 : decode method_3_code 30 = .ok (.iconst 5, 1) := by decide +kernel
theorem d3_31 : decode method_3_code 31 = .ok (.sipush 224, 3) := by decide +kernel
theorem d3_34 : decode method_3_code 34 = .ok (.iastore, 1) := by decide +kernel
theorem d3_35 : decode method_3_code 35 = .ok (.dup, 1) := by decide +kernel
theorem d3_36 : decode method_3_code 36 = .ok (.bipush 6, 2) := by decide +kernel
theorem d3_38 : decode method_3_code 38 = .ok (.bipush 64, 2) := by decide +kernel
theorem d3_40 : decode method_3_code 40 = .ok (.iastore, 1) := by decide +kernel
theorem d3_41 : decode method_3_code 41 = .ok (.dup, 1) := by decide +kernel
theorem d3_42 : decode method_3_code 42 = .ok (.bipush 7, 2) := by decide +kernel
theorem d3_44 : decode method_3_code 44 = .ok (.sipush 128, 3) := by decide +kernel
theorem d3_47 : decode method_3_code 47 = .ok (.iastore, 1) := by decide +kernel
theorem d3_48 : decode method_3_code 48 = .ok (.dup, 1) := by decide +kernel
theorem d3_49 : decode method_3_code 49 = .ok (.bipush 8, 2) := by decide +kernel
theorem d3_51 : decode method_3_code 51 = .ok (.iconst 0, 1) := by decide +kernel
theorem d3_52 : decode method_3_code 52 = .ok (.iastore, 1) := by decide +kernel
theorem d3_53 : decode method_3_code 53 = .ok (.dup, 1) := by decide +kernel
theorem d3_54 : decode method_3_code 54 = .ok (.bipush 9, 2) := by decide +kernel
theorem d3_56 : decode method_3_code 56 = .ok (.sipush 512, 3) := by decide +kernel
theorem d3_59 : decode method_3_code 59 = .ok (.iastore, 1) := by decide +kernel
theorem d3_60 : decode method_3_code 60 = .ok (.astore_n 2, 1) := by decide +kernel
theorem d3_61 : decode method_3_code 61 = .ok (.aload_n 2, 1) := by decide +kernel
theorem d3_62 : decode method_3_code 62 = .ok (.iload_n 0, 1) := by decide +kernel
theorem d3_63 : decode method_3_code 63 = .ok (.iaload, 1) := by decide +kernel
theorem d3_64 : decode method_3_code 64 = .ok (.iload_n 1, 1) := by decide +kernel
theorem d3_65 : decode method_3_code 65 = .ok (.ishr, 1) := by decide +kernel
theorem d3_66 : decode method_3_code 66 = .ok (.iconst 1, 1) := by decide +kernel
theorem d3_67 : decode method_3_code 67 = .ok (.iand, 1) := by decide +kernel
theorem d3_68 : decode method_3_code 68 = .ok (.ifCond .eq 7, 3) := by decide +kernel
theorem d3_71 : decode method_3_code 71 = .ok (.iconst 1, 1) := by decide +kernel
theorem d3_72 : decode method_3_code 72 = .ok (.goto 4, 3) := by decide +kernel
theorem d3_75 : decode method_3_code 75 = .ok (.iconst 0, 1) := by decide +kernel
theorem d3_76 : decode method_3_code 76 = .ok (.ireturn, 1) := by decide +kernel
theorem pn_0 : plainName "com/example/key_warden/keywarden/engine/LockModeCoversPinLaw" = true := by first | (simp [plainName, overriddenIn]; done) | decide +kernel
theorem ef_1_I (m : MethodId) (x0 : Int32) : entryFrame m #[(.int x0)] 2 = mkF m 0 #[.val (.int x0), .unset] [] := by first | (simp [entryFrame, mkF, argsToLocals, Value.category]; done) | rfl
theorem ef_3_II (m : MethodId) (x0 : Int32) (x1 : Int32) : entryFrame m #[(.int x0), (.int x1)] 3 = mkF m 0 #[.val (.int x0), .val (.int x1), .unset] [] := by first | (simp [entryFrame, mkF, argsToLocals, Value.category]; done) | rfl
theorem pd_3 : parseMethodDescriptor "(I)Lcom/example/key_warden/keywarden/engine/LockMode;" = some ⟨[.int], some (.object "com/example/key_warden/keywarden/engine/LockMode")⟩ := by decide +kernel
theorem pd_4 : parseMethodDescriptor "(Lcom/example/key_warden/keywarden/engine/LockMode;)Z" = some ⟨[(.object "com/example/key_warden/keywarden/engine/LockMode")], some .boolean⟩ := by decide +kernel
theorem pd_5 : parseMethodDescriptor "(II)Z" = some ⟨[.int, .int], some .boolean⟩ := by decide +kernel
theorem ef_0_II (m : MethodId) (x0 : Int32) (x1 : Int32) : entryFrame m #[(.int x0), (.int x1)] maxLocals = mkF m 0 #[.val (.int x0), .val (.int x1), .unset, .unset, .unset, .unset] [] := by first | (simp [entryFrame, mkF, argsToLocals, Value.category, maxLocals]; done) | rfl
theorem pn_7 : plainName "com/example/key_warden/keywarden/engine/LockMode" = true := by first | (simp [plainName, overriddenIn]; done) | decide +kernel
theorem ef_2_RR (m : MethodId) (x0 : Addr) (x1 : Addr) : entryFrame m #[(.ref x0), (.ref x1)] 3 = mkF m 0 #[.val (.ref x0), .val (.ref x1), .unset] [] := by first | (simp [entryFrame, mkF, argsToLocals, Value.category]; done) | rfl
def own_QK (r : Option Value) (n0 : Nat) (h0 : Heap) (v : Option Value) (h : Heap) (L : List Loc) : Prop := v = r ∧ Fr n0 L ∧ Keep h0 h []
set_option maxRecDepth 65536 in
set_option maxHeartbeats 40000000 in
theorem rm1_0 (l : Launch) (Z : State) (a0 : Array Value) (hw : ∀ d ∈ tables_1, d.before a0 Z = true) (p1 : Int32) (w_IX : Addr) (w_IS : Addr) (w_X : Addr) (w_X_REC_NOT_GAP : Addr) (w_X_GAP : Addr) (w_S : Addr) (w_S_REC_NOT_GAP : Addr) (w_S_GAP : Addr) (w_X_INSERT_INTENTION : Addr) (w_AUTO_INC : Addr) (w_i : Addr) (h0 : Heap) (n0 : Nat) (O0 : Old Z n0 h0) (P1 : Sta Z Z.heap "com/example/key_warden/keywarden/engine/LockMode" "IX" "Lcom/example/key_warden/keywarden/engine/LockMode;" (.ref w_IX)) (P2 : Exa Z Z.heap w_IX "com/example/key_warden/keywarden/engine/LockMode") (P3 : Sta Z Z.heap "com/example/key_warden/keywarden/engine/LockMode" "IS" "Lcom/example/key_warden/keywarden/engine/LockMode;" (.ref w_IS)) (P4 : Exa Z Z.heap w_IS "com/example/key_warden/keywarden/engine/LockMode") (P5 : Sta Z Z.heap "com/example/key_warden/keywarden/engine/LockMode" "X" "Lcom/example/key_warden/keywarden/engine/LockMode;" (.ref w_X)) (P6 : Exa Z Z.heap w_X "com/example/key_warden/keywarden/engine/LockMode") (P7 : Sta Z Z.heap "com/example/key_warden/keywarden/engine/LockMode" "X_REC_NOT_GAP" "Lcom/example/key_warden/keywarden/engine/LockMode;" (.ref w_X_REC_NOT_GAP)) (P8 : Exa Z Z.heap w_X_REC_NOT_GAP "com/example/key_warden/keywarden/engine/LockMode") (P9 : Sta Z Z.heap "com/example/key_warden/keywarden/engine/LockMode" "X_GAP" "Lcom/example/key_warden/keywarden/engine/LockMode;" (.ref w_X_GAP)) (P10 : Exa Z Z.heap w_X_GAP "com/example/key_warden/keywarden/engine/LockMode") (P11 : Sta Z Z.heap "com/example/key_warden/keywarden/engine/LockMode" "S" "Lcom/example/key_warden/keywarden/engine/LockMode;" (.ref w_S)) (P12 : Exa Z Z.heap w_S "com/example/key_warden/keywarden/engine/LockMode") (P13 : Sta Z Z.heap "com/example/key_warden/keywarden/engine/LockMode" "S_REC_NOT_GAP" "Lcom/example/key_warden/keywarden/engine/LockMode;" (.ref w_S_REC_NOT_GAP)) (P14 : Exa Z Z.heap w_S_REC_NOT_GAP "com/example/key_warden/keywarden/engine/LockMode") (P15 : Sta Z Z.heap "com/example/key_warden/keywarden/engine/LockMode" "S_GAP" "Lcom/example/key_warden/keywarden/engine/LockMode;" (.ref w_S_GAP)) (P16 : Exa Z Z.heap w_S_GAP "com/example/key_warden/keywarden/engine/LockMode") (P17 : Sta Z Z.heap "com/example/key_warden/keywarden/engine/LockMode" "X_INSERT_INTENTION" "Lcom/example/key_warden/keywarden/engine/LockMode;" (.ref w_X_INSERT_INTENTION)) (P18 : Exa Z Z.heap w_X_INSERT_INTENTION "com/example/key_warden/keywarden/engine/LockMode") (P19 : Sta Z Z.heap "com/example/key_warden/keywarden/engine/LockMode" "AUTO_INC" "Lcom/example/key_warden/keywarden/engine/LockMode;" (.ref w_AUTO_INC)) (P20 : Exa Z Z.heap w_AUTO_INC "com/example/key_warden/keywarden/engine/LockMode") (P21 : ¬ (p1 < (0 : Int32))) (P22 : p1 < (10 : Int32)) (P23 : List.getD ([(.ref w_IX), (.ref w_IS), (.ref w_X), (.ref w_X_REC_NOT_GAP), (.ref w_X_GAP), (.ref w_S), (.ref w_S_REC_NOT_GAP), (.ref w_S_GAP), (.ref w_X_INSERT_INTENTION), (.ref w_AUTO_INC)] : List Value) (p1 : Int32).toNatClampNeg .null = (.ref w_i)) :
    MetFree l (⟨"com/example/key_warden/keywarden/engine/LockModeCoversPinLaw", "mode", "(I)Lcom/example/key_warden/keywarden/engine/LockMode;"⟩ : MethodName) (head1 [Jvm.Cond.code (⟨"com/example/key_warden/keywarden/engine/LockModeCoversPinLaw", "mode", "(I)Lcom/example/key_warden/keywarden/engine/LockMode;"⟩ : MethodName) method_2_code 2 (some (.object "com/example/key_warden/keywarden/engine/LockMode"))] ({ frames := 0, cells := 1, slots := 10, locals := 0 } : Room)) (fun a U => a = #[(.int p1)] ∧ Z.Warmed39 U.vm ∧ U.heap = h0) (fun _ _ _ _ _ => True) (fun _ U o U' => ∃ v L, o = .returned v ∧ own_QK (some (.ref w_i)) n0 h0 v U'.heap L ∧ FrameEnd U o U' L ({ frames := 0, cells := 1, slots := 10, locals := 0 } : Room).cells ({ frames := 0, cells := 1, slots := 10, locals := 0 } : Room).slots) := by
  refine MetFree.of_bodySF (plainFor_of_name pn_0) hisR ?_
  intro p e s m args below meth c s₁ Bd hml0 hP hK
  obtain ⟨rfl, hZ, hh⟩ := hP
  have hx := Bd.exec
  have hby := Bd.bytes
  have hml : c.maxLocals = 2 := hml0
  have hown : s.vm.findClass "com/example/key_warden/keywarden/engine/LockModeCoversPinLaw" = some m.cls := findClass_of_methodNamed Bd.named
  have hnm := (name_of_methodNamed Bd.named Bd.method).1
  have X0 : Stand p l e ({ frames := 0, cells := 1, slots := 10, locals := 0 } : Room) s m #[(.int p1)] below meth c s₁ [] 0 0 := Stand.of_body Bd
  have e0 : s₁.heap = h0 := by rw [← hh, Bd.state]; rfl
  have N0 := Fr.nil n0
  have pre0 : ∀ t, Steps p.tables e below (s₁.setTop (mkF m 0 #[.val (.int p1), .unset] [])) t → Steps p.tables e below (s₁.setTop (entryFrame m #[(.int p1)] 2)) t := fun t k => castTop (ef_1_I m p1) k
  obtain ⟨T1, h1, k1, X1, e1, E1, A1, Ov1, st1⟩ := newR X0 hx hZ hown (hw _ (List.mem_of_getElem? (i := 5) rfl)) (hw _ (List.mem_of_getElem? (i := 6) rfl)) e0 (g := (mkF m 2 #[.val (.int p1), .unset] [(.int (10 : Int32))])) rfl (hb hby d1_2) rfl (by decide) (cap := 10) (by decide) (by decide) (by decide) (by decide)
  obtain ⟨b1, gq1⟩ : ∃ z, z = h0.size := ⟨_, rfl⟩
  rw [← gq1] at A1 st1
  have g_b1 : n0 ≤ b1 := Nat.le_trans ((O0.1 ▸ O0.2.1) : n0 ≤ h0.size) (Nat.le_of_eq gq1.symm)
  have sz_b1 : h0.size ≤ b1 := Nat.le_trans (Keep.refl h0 []).1 (Nat.le_of_eq gq1.symm)
  have KK1 : Keep h0 h1 [] := (Keep.refl h0 []).ext E1
  have O1 := O0.ext E1
  have V1 : Arv Z h1 b1 k1 (.object "com/example/key_warden/keywarden/engine/LockMode") (10 : Int32) [.null, .null, .null, .null, .null, .null, .null, .null, .null, .null] .null := (Arv.new A1 (by decide)).pad (pad_rep [] .null 10)
  obtain ⟨T2, X2, e2, st2⟩ := getS2 X1 hx hZ hown (host := "") (Or.inl (hw _ (List.mem_of_getElem? (i := 7) rfl))) Via.refl e1 (P1.ext O1.2) (g := (mkF m 7 #[.val (.int p1), .unset] [(.int (0 : Int32)), (.ref b1), (.ref b1)])) rfl (hb hby d1_7)
  obtain ⟨cl3, Ar3, qr3, Sr3, Nr3, Hr3, Gr3⟩ := V1
  have hin3 : ¬ ((0 : Int32) < 0 ∨ cl3.slots.size ≤ ((0 : Int32) : Int32).toNatClampNeg) := inb_of Sr3 ⟨by decide, by decide⟩
  obtain ⟨T4, h4, X4, e4, W4, st4⟩ := stR X2 hx hZ e2 Ar3 (j := (0 : Int32)) hin3 rfl (Sto.ofV Ar3 qr3 Ov1 (Ins.self (P2.ext O1.2))) (g := (mkF m 10 #[.val (.int p1), .unset] [(.ref w_IX), (.int (0 : Int32)), (.ref b1), (.ref b1)])) rfl rfl (hb hby d1_10)
  have V4 : Arv Z h4 b1 k1 (.object "com/example/key_warden/keywarden/engine/LockMode") (10 : Int32) [(.ref w_IX), .null, .null, .null, .null, .null, .null, .null, .null, .null] .null := Arv.set Ar3 qr3 Sr3 Nr3 Hr3 Gr3 rfl W4 0 rfl (Nat.le_of_ble_eq_true rfl)
  have KK4 : Keep h0 h4 [] := KK1.wr W4 (Or.inr sz_b1)
  have O4 := O1.wr W4 g_b1
  have N4 := Fr.snoc X4 N0 g_b1
  obtain ⟨T5, X5, e5, st5⟩ := getS2 X4 hx hZ hown (host := "") (Or.inl (hw _ (List.mem_of_getElem? (i := 11) rfl))) Via.refl e4 (P3.ext O4.2) (g := (mkF m 13 #[.val (.int p1), .unset] [(.int (1 : Int32)), (.ref b1), (.ref b1)])) rfl (hb hby d1_13)
  obtain ⟨cl6, Ar6, qr6, Sr6, Nr6, Hr6, Gr6⟩ := V4
  have hin6 : ¬ ((1 : Int32) < 0 ∨ cl6.slots.size ≤ ((1 : Int32) : Int32).toNatClampNeg) := inb_of Sr6 ⟨by decide, by decide⟩
  obtain ⟨T7, h7, X7, e7, W7, st7⟩ := stR X5 hx hZ e5 Ar6 (j := (1 : Int32)) hin6 rfl (Sto.ofV Ar6 qr6 Ov1 (Ins.self (P4.ext O4.2))) (g := (mkF m 16 #[.val (.int p1), .unset] [(.ref w_IS), (.int (1 : Int32)), (.ref b1), (.ref b1)])) rfl rfl (hb hby d1_16)
  have V7 : Arv Z h7 b1 k1 (.object "com/example/key_warden/keywarden/engine/LockMode") (10 : Int32) [(.ref w_IX), (.ref w_IS), .null, .null, .null, .null, .null, .null, .null, .null] .null := Arv.set Ar6 qr6 Sr6 Nr6 Hr6 Gr6 rfl W7 1 rfl (Nat.le_of_ble_eq_true rfl)
  have KK7 : Keep h0 h7 [] := KK4.wr W7 (Or.inr sz_b1)
  have O7 := O4.wr W7 g_b1
  have N7 := Fr.snoc X7 N4 g_b1
  obtain ⟨T8, X8, e8, st8⟩ := getS2 X7 hx hZ hown (host := "") (Or.inl (hw _ (List.mem_of_getElem? (i := 13) rfl))) Via.refl e7 (P5.ext O7.2) (g := (mkF m 19 #[.val (.int p1), .unset] [(.int (2 : Int32)), (.ref b1), (.ref b1)])) rfl (hb hby d1_19)
  obtain ⟨cl9, Ar9, qr9, Sr9, Nr9, Hr9, Gr9⟩ := V7
  have hin9 : ¬ ((2 : Int32) < 0 ∨ cl9.slots.size ≤ ((2 : Int32) : Int32).toNatClampNeg) := inb_of Sr9 ⟨by decide, by decide⟩
  obtain ⟨T10, h10, X10, e10, W10, st10⟩ := stR X8 hx hZ e8 Ar9 (j := (2 : Int32)) hin9 rfl (Sto.ofV Ar9 qr9 Ov1 (Ins.self (P6.ext O7.2))) (g := (mkF m 22 #[.val (.int p1), .unset] [(.ref w_X), (.int (2 : Int32)), (.ref b1), (.ref b1)])) rfl rfl (hb hby d1_22)
  have V10 : Arv Z h10 b1 k1 (.object "com/example/key_warden/keywarden/engine/LockMode") (10 : Int32) [(.ref w_IX), (.ref w_IS), (.ref w_X), .null, .null, .null, .null, .null, .null, .null] .null := Arv.set Ar9 qr9 Sr9 Nr9 Hr9 Gr9 rfl W10 2 rfl (Nat.le_of_ble_eq_true rfl)
  have KK10 : Keep h0 h10 [] := KK7.wr W10 (Or.inr sz_b1)
  have O10 := O7.wr W10 g_b1
  have N10 := Fr.snoc X10 N7 g_b1
  obtain ⟨T11, X11, e11, st11⟩ := getS2 X10 hx hZ hown (host := "") (Or.inl (hw _ (List.mem_of_getElem? (i := 15) rfl))) Via.refl e10 (P7.ext O10.2) (g := (mkF m 25 #[.val (.int p1), .unset] [(.int (3 : Int32)), (.ref b1), (.ref b1)])) rfl (hb hby d1_25)
  obtain ⟨cl12, Ar12, qr12, Sr12, Nr12, Hr12, Gr12⟩ := V10
  have hin12 : ¬ ((3 : Int32) < 0 ∨ cl12.slots.size ≤ ((3 : Int32) : Int32).toNatClampNeg) := inb_of Sr12 ⟨by decide, by decide⟩
  obtain ⟨T13, h13, X13, e13, W13, st13⟩ := stR X11 hx hZ e11 Ar12 (j := (3 : Int32)) hin12 rfl (Sto.ofV Ar12 qr12 Ov1 (Ins.self (P8.ext O10.2))) (g := (mkF m 28 #[.val (.int p1), .unset] [(.ref w_X_REC_NOT_GAP), (.int (3 : Int32)), (.ref b1), (.ref b1)])) rfl rfl (hb hby d1_28)
  have V13 : Arv Z h13 b1 k1 (.object "com/example/key_warden/keywarden/engine/LockMode") (10 : Int32) [(.ref w_IX), (.ref w_IS), (.ref w_X), (.ref w_X_REC_NOT_GAP), .null, .null, .null, .null, .null, .null] .null := Arv.set Ar12 qr12 Sr12 Nr12 Hr12 Gr12 rfl W13 3 rfl (Nat.le_of_ble_eq_true rfl)
  have KK13 : Keep h0 h13 [] := KK10.wr W13 (Or.inr sz_b1)
  have O13 := O10.wr W13 g_b1
  have N13 := Fr.snoc X13 N10 g_b1
  obtain ⟨T14, X14, e14, st14⟩ := getS2 X13 hx hZ hown (host := "") (Or.inl (hw _ (List.mem_of_getElem? (i := 17) rfl))) Via.refl e13 (P9.ext O13.2) (g := (mkF m 31 #[.val (.int p1), .unset] [(.int (4 : Int32)), (.ref b1), (.ref b1)])) rfl (hb hby d1_31)
  obtain ⟨cl15, Ar15, qr15, Sr15, Nr15, Hr15, Gr15⟩ := V13
  have hin15 : ¬ ((4 : Int32) < 0 ∨ cl15.slots.size ≤ ((4 : Int32) : Int32).toNatClampNeg) := inb_of Sr15 ⟨by decide, by decide⟩
  obtain ⟨T16, h16, X16, e16, W16, st16⟩ := stR X14 hx hZ e14 Ar15 (j := (4 : Int32)) hin15 rfl (Sto.ofV Ar15 qr15 Ov1 (Ins.self (P10.ext O13.2))) (g := (mkF m 34 #[.val (.int p1), .unset] [(.ref w_X_GAP), (.int (4 : Int32)), (.ref b1), (.ref b1)])) rfl rfl (hb hby d1_34)
  have V16 : Arv Z h16 b1 k1 (.object "com/example/key_warden/keywarden/engine/LockMode") (10 : Int32) [(.ref w_IX), (.ref w_IS), (.ref w_X), (.ref w_X_REC_NOT_GAP), (.ref w_X_GAP), .null, .null, .null, .null, .null] .null := Arv.set Ar15 qr15 Sr15 Nr15 Hr15 Gr15 rfl W16 4 rfl (Nat.le_of_ble_eq_true rfl)
  have KK16 : Keep h0 h16 [] := KK13.wr W16 (Or.inr sz_b1)
  have O16 := O13.wr W16 g_b1
  have N16 := Fr.snoc X16 N13 g_b1
  obtain ⟨T17, X17, e17, st17⟩ := getS2 X16 hx hZ hown (host := "") (Or.inl (hw _ (List.mem_of_getElem? (i := 19) rfl))) Via.refl e16 (P11.ext O16.2) (g := (mkF m 37 #[.val (.int p1), .unset] [(.int (5 : Int32)), (.ref b1), (.ref b1)])) rfl (hb hby d1_37)
  obtain ⟨cl18, Ar18, qr18, Sr18, Nr18, Hr18, Gr18⟩ := V16
  have hin18 : ¬ ((5 : Int32) < 0 ∨ cl18.slots.size ≤ ((5 : Int32) : Int32).toNatClampNeg) := inb_of Sr18 ⟨by decide, by decide⟩
  obtain ⟨T19, h19, X19, e19, W19, st19⟩ := stR X17 hx hZ e17 Ar18 (j := (5 : Int32)) hin18 rfl (Sto.ofV Ar18 qr18 Ov1 (Ins.self (P12.ext O16.2))) (g := (mkF m 40 #[.val (.int p1), .unset] [(.ref w_S), (.int (5 : Int32)), (.ref b1), (.ref b1)])) rfl rfl (hb hby d1_40)
  have V19 : Arv Z h19 b1 k1 (.object "com/example/key_warden/keywarden/engine/LockMode") (10 : Int32) [(.ref w_IX), (.ref w_IS), (.ref w_X), (.ref w_X_REC_NOT_GAP), (.ref w_X_GAP), (.ref w_S), .null, .null, .null, .null] .null := Arv.set Ar18 qr18 Sr18 Nr18 Hr18 Gr18 rfl W19 5 rfl (Nat.le_of_ble_eq_true rfl)
  have KK19 : Keep h0 h19 [] := KK16.wr W19 (Or.inr sz_b1)
  have O19 := O16.wr W19 g_b1
  have N19 := Fr.snoc X19 N16 g_b1
  obtain ⟨T20, X20, e20, st20⟩ := getS2 X19 hx hZ hown (host := "") (Or.inl (hw _ (List.mem_of_getElem? (i := 21) rfl))) Via.refl e19 (P13.ext O19.2) (g := (mkF m 44 #[.val (.int p1), .unset] [(.int (6 : Int32)), (.ref b1), (.ref b1)])) rfl (hb hby d1_44)
  obtain ⟨cl21, Ar21, qr21, Sr21, Nr21, Hr21, Gr21⟩ := V19
  have hin21 : ¬ ((6 : Int32) < 0 ∨ cl21.slots.size ≤ ((6 : Int32) : Int32).toNatClampNeg) := inb_of Sr21 ⟨by decide, by decide⟩
  obtain ⟨T22, h22, X22, e22, W22, st22⟩ := stR X20 hx hZ e20 Ar21 (j := (6 : Int32)) hin21 rfl (Sto.ofV Ar21 qr21 Ov1 (Ins.self (P14.ext O19.2))) (g := (mkF m 47 #[.val (.int p1), .unset] [(.ref w_S_REC_NOT_GAP), (.int (6 : Int32)), (.ref b1), (.ref b1)])) rfl rfl (hb hby d1_47)
  have V22 : Arv Z h22 b1 k1 (.object "com/example/key_warden/keywarden/engine/LockMode") (10 : Int32) [(.ref w_IX), (.ref w_IS), (.ref w_X), (.ref w_X_REC_NOT_GAP), (.ref w_X_GAP), (.ref w_S), (.ref w_S_REC_NOT_GAP), .null, .null, .null] .null := Arv.set Ar21 qr21 Sr21 Nr21 Hr21 Gr21 rfl W22 6 rfl (Nat.le_of_ble_eq_true rfl)
  have KK22 : Keep h0 h22 [] := KK19.wr W22 (Or.inr sz_b1)
  have O22 := O19.wr W22 g_b1
  have N22 := Fr.snoc X22 N19 g_b1
  obtain ⟨T23, X23, e23, st23⟩ := getS2 X22 hx hZ hown (host := "") (Or.inl (hw _ (List.mem_of_getElem? (i := 23) rfl))) Via.refl e22 (P15.ext O22.2) (g := (mkF m 51 #[.val (.int p1), .unset] [(.int (7 : Int32)), (.ref b1), (.ref b1)])) rfl (hb hby d1_51)
  obtain ⟨cl24, Ar24, qr24, Sr24, Nr24, Hr24, Gr24⟩ := V22
  have hin24 : ¬ ((7 : Int32) < 0 ∨ cl24.slots.size ≤ ((7 : Int32) : Int32).toNatClampNeg) := inb_of Sr24 ⟨by decide, by decide⟩
  obtain ⟨T25, h25, X25, e25, W25, st25⟩ := stR X23 hx hZ e23 Ar24 (j := (7 : Int32)) hin24 rfl (Sto.ofV Ar24 qr24 Ov1 (Ins.self (P16.ext O22.2))) (g := (mkF m 54 #[.val (.int p1), .unset] [(.ref w_S_GAP), (.int (7 : Int32)), (.ref b1), (.ref b1)])) rfl rfl (hb hby d1_54)
  have V25 : Arv Z h25 b1 k1 (.object "com/example/key_warden/keywarden/engine/LockMode") (10 : Int32) [(.ref w_IX), (.ref w_IS), (.ref w_X), (.ref w_X_REC_NOT_GAP), (.ref w_X_GAP), (.ref w_S), (.ref w_S_REC_NOT_GAP), (.ref w_S_GAP), .null, .null] .null := Arv.set Ar24 qr24 Sr24 Nr24 Hr24 Gr24 rfl W25 7 rfl (Nat.le_of_ble_eq_true rfl)
  have KK25 : Keep h0 h25 [] := KK22.wr W25 (Or.inr sz_b1)
  have O25 := O22.wr W25 g_b1
  have N25 := Fr.snoc X25 N22 g_b1
  obtain ⟨T26, X26, e26, st26⟩ := getS2 X25 hx hZ hown (host := "") (Or.inl (hw _ (List.mem_of_getElem? (i := 25) rfl))) Via.refl e25 (P17.ext O25.2) (g := (mkF m 58 #[.val (.int p1), .unset] [(.int (8 : Int32)), (.ref b1), (.ref b1)])) rfl (hb hby d1_58)
  obtain ⟨cl27, Ar27, qr27, Sr27, Nr27, Hr27, Gr27⟩ := V25
  have hin27 : ¬ ((8 : Int32) < 0 ∨ cl27.slots.size ≤ ((8 : Int32) : Int32).toNatClampNeg) := inb_of Sr27 ⟨by decide, by decide⟩
  obtain ⟨T28, h28, X28, e28, W28, st28⟩ := stR X26 hx hZ e26 Ar27 (j := (8 : Int32)) hin27 rfl (Sto.ofV Ar27 qr27 Ov1 (Ins.self (P18.ext O25.2))) (g := (mkF m 61 #[.val (.int p1), .unset] [(.ref w_X_INSERT_INTENTION), (.int (8 : Int32)), (.ref b1), (.ref b1)])) rfl rfl (hb hby d1_61)
  have V28 : Arv Z h28 b1 k1 (.object "com/example/key_warden/keywarden/engine/LockMode") (10 : Int32) [(.ref w_IX), (.ref w_IS), (.ref w_X), (.ref w_X_REC_NOT_GAP), (.ref w_X_GAP), (.ref w_S), (.ref w_S_REC_NOT_GAP), (.ref w_S_GAP), (.ref w_X_INSERT_INTENTION), .null] .null := Arv.set Ar27 qr27 Sr27 Nr27 Hr27 Gr27 rfl W28 8 rfl (Nat.le_of_ble_eq_true rfl)
  have KK28 : Keep h0 h28 [] := KK25.wr W28 (Or.inr sz_b1)
  have O28 := O25.wr W28 g_b1
  have N28 := Fr.snoc X28 N25 g_b1
  obtain ⟨T29, X29, e29, st29⟩ := getS2 X28 hx hZ hown (host := "") (Or.inl (hw _ (List.mem_of_getElem? (i := 27) rfl))) Via.refl e28 (P19.ext O28.2) (g := (mkF m 65 #[.val (.int p1), .unset] [(.int (9 : Int32)), (.ref b1), (.ref b1)])) rfl (hb hby d1_65)
  obtain ⟨cl30, Ar30, qr30, Sr30, Nr30, Hr30, Gr30⟩ := V28
  have hin30 : ¬ ((9 : Int32) < 0 ∨ cl30.slots.size ≤ ((9 : Int32) : Int32).toNatClampNeg) := inb_of Sr30 ⟨by decide, by decide⟩
  obtain ⟨T31, h31, X31, e31, W31, st31⟩ := stR X29 hx hZ e29 Ar30 (j := (9 : Int32)) hin30 rfl (Sto.ofV Ar30 qr30 Ov1 (Ins.self (P20.ext O28.2))) (g := (mkF m 68 #[.val (.int p1), .unset] [(.ref w_AUTO_INC), (.int (9 : Int32)), (.ref b1), (.ref b1)])) rfl rfl (hb hby d1_68)
  have V31 : Arv Z h31 b1 k1 (.object "com/example/key_warden/keywarden/engine/LockMode") (10 : Int32) [(.ref w_IX), (.ref w_IS), (.ref w_X), (.ref w_X_REC_NOT_GAP), (.ref w_X_GAP), (.ref w_S), (.ref w_S_REC_NOT_GAP), (.ref w_S_GAP), (.ref w_X_INSERT_INTENTION), (.ref w_AUTO_INC)] .null := Arv.set Ar30 qr30 Sr30 Nr30 Hr30 Gr30 rfl W31 9 rfl (Nat.le_of_ble_eq_true rfl)
  have KK31 : Keep h0 h31 [] := KK28.wr W31 (Or.inr sz_b1)
  have O31 := O28.wr W31 g_b1
  have N31 := Fr.snoc X31 N28 g_b1
  obtain ⟨cl32, Ar32, -, Sr32, -, Hr32, -⟩ := V31
  have hin32 : ¬ (p1 < 0 ∨ cl32.slots.size ≤ (p1 : Int32).toNatClampNeg) := inb_of Sr32 ⟨P21, P22⟩
  have hat32 : cl32.slots[(p1 : Int32).toNatClampNeg]? = some (.ref w_i) := Has.at Hr32 hin32 P23
  obtain ⟨fs, hr, hrun, hended, hW, hsame⟩ := X31.leave (v := (some (.ref w_i))) (fun h => by rw [Bd.returns] at h; cases h)
  refine ⟨_, _, pre0 _ ?_, hrun, hended, _, _, rfl, ?_, ⟨_, rfl⟩, hW, hsame.mono (by decide) (by decide)⟩
  · show Steps p.tables e below (s₁.setTop (mkF m 0 #[.val (.int p1), .unset] [])) _
    refine XS.bipush X0.here hx rfl (hb hby d1_0) ?_
    show Steps p.tables e below (s₁.setTop (mkF m 2 #[.val (.int p1), .unset] [(.int (10 : Int32))])) _
    refine st1 _ ?_
    show Steps p.tables e below (T1.setTop (mkF m 5 #[.val (.int p1), .unset] [(.ref b1)])) _
    refine XS.dup X1.here hx rfl (hb hby d1_5) rfl rfl ?_
    show Steps p.tables e below (T1.setTop (mkF m 6 #[.val (.int p1), .unset] [(.ref b1), (.ref b1)])) _
    refine XS.iconst X1.here hx rfl (hb hby d1_6) ?_
    show Steps p.tables e below (T1.setTop (mkF m 7 #[.val (.int p1), .unset] [(.int (0 : Int32)), (.ref b1), (.ref b1)])) _
    refine st2 _ ?_
    show Steps p.tables e below (T2.setTop (mkF m 10 #[.val (.int p1), .unset] [(.ref w_IX), (.int (0 : Int32)), (.ref b1), (.ref b1)])) _
    refine st4 _ ?_
    show Steps p.tables e below (T4.setTop (mkF m 11 #[.val (.int p1), .unset] [(.ref b1)])) _
    refine XS.dup X4.here hx rfl (hb hby d1_11) rfl rfl ?_
    show Steps p.tables e below (T4.setTop (mkF m 12 #[.val (.int p1), .unset] [(.ref b1), (.ref b1)])) _
    refine XS.iconst X4.here hx rfl (hb hby d1_12) ?_
    show Steps p.tables e below (T4.setTop (mkF m 13 #[.val (.int p1), .unset] [(.int (1 : Int32)), (.ref b1), (.ref b1)])) _
    refine st5 _ ?_
    show Steps p.tables e below (T5.setTop (mkF m 16 #[.val (.int p1), .unset] [(.ref w_IS), (.int (1 : Int32)), (.ref b1), (.ref b1)])) _
    refine st7 _ ?_
    show Steps p.tables e below (T7.setTop (mkF m 17 #[.val (.int p1), .unset] [(.ref b1)])) _
    refine XS.dup X7.here hx rfl (hb hby d1_17) rfl rfl ?_
    show Steps p.tables e below (T7.setTop (mkF m 18 #[.val (.int p1), .unset] [(.ref b1), (.ref b1)])) _
    refine XS.iconst X7.here hx rfl (hb hby d1_18) ?_
    show Steps p.tables e below (T7.setTop (mkF m 19 #[.val (.int p1), .unset] [(.int (2 : Int32)), (.ref b1), (.ref b1)])) _
    refine st8 _ ?_
    show Steps p.tables e below (T8.setTop (mkF m 22 #[.val (.int p1), .unset] [(.ref w_X), (.int (2 : Int32)), (.ref b1), (.ref b1)])) _
    refine st10 _ ?_
    show Steps p.tables e below (T10.setTop (mkF m 23 #[.val (.int p1), .unset] [(.ref b1)])) _
    refine XS.dup X10.here hx rfl (hb hby d1_23) rfl rfl ?_
    show Steps p.tables e below (T10.setTop (mkF m 24 #[.val (.int p1), .unset] [(.ref b1), (.ref b1)])) _
    refine XS.iconst X10.here hx rfl (hb hby d1_24) ?_
    show Steps p.tables e below (T10.setTop (mkF m 25 #[.val (.int p1), .unset] [(.int (3 : Int32)), (.ref b1), (.ref b1)])) _
    refine st11 _ ?_
    show Steps p.tables e below (T11.setTop (mkF m 28 #[.val (.int p1), .unset] [(.ref w_X_REC_NOT_GAP), (.int (3 : Int32)), (.ref b1), (.ref b1)])) _
    refine st13 _ ?_
    show Steps p.tables e below (T13.setTop (mkF m 29 #[.val (.int p1), .unset] [(.ref b1)])) _
    refine XS.dup X13.here hx rfl (hb hby d1_29) rfl rfl ?_
    show Steps p.tables e below (T13.setTop (mkF m 30 #[.val (.int p1), .unset] [(.ref b1), (.ref b1)])) _
    refine XS.iconst X13.here hx rfl (hb hby d1_30) ?_
    show Steps p.tables e below (T13.setTop (mkF m 31 #[.val (.int p1), .unset] [(.int (4 : Int32)), (.ref b1), (.ref b1)])) _
    refine st14 _ ?_
    show Steps p.tables e below (T14.setTop (mkF m 34 #[.val (.int p1), .unset] [(.ref w_X_GAP), (.int (4 : Int32)), (.ref b1), (.ref b1)])) _
    refine st16 _ ?_
    show Steps p.tables e below (T16.setTop (mkF m 35 #[.val (.int p1), .unset] [(.ref b1)])) _
    refine XS.dup X16.here hx rfl (hb hby d1_35) rfl rfl ?_
    show Steps p.tables e below (T16.setTop (mkF m 36 #[.val (.int p1), .unset] [(.ref b1), (.ref b1)])) _
    refine XS.iconst X16.here hx rfl (hb hby d1_36) ?_
    show Steps p.tables e below (T16.setTop (mkF m 37 #[.val (.int p1), .unset] [(.int (5 : Int32)), (.ref b1), (.ref b1)])) _
    refine st17 _ ?_
    show Steps p.tables e below (T17.setTop (mkF m 40 #[.val (.int p1), .unset] [(.ref w_S), (.int (5 : Int32)), (.ref b1), (.ref b1)])) _
    refine st19 _ ?_
    show Steps p.tables e below (T19.setTop (mkF m 41 #[.val (.int p1), .unset] [(.ref b1)])) _
    refine XS.dup X19.here hx rfl (hb hby d1_41) rfl rfl ?_
    show Steps p.tables e below (T19.setTop (mkF m 42 #[.val (.int p1), .unset] [(.ref b1), (.ref b1)])) _
    refine XS.bipush X19.here hx rfl (hb hby d1_42) ?_
    show Steps p.tables e below (T19.setTop (mkF m 44 #[.val (.int p1), .unset] [(.int (6 : Int32)), (.ref b1), (.ref b1)])) _
    refine st20 _ ?_
    show Steps p.tables e below (T20.setTop (mkF m 47 #[.val (.int p1), .unset] [(.ref w_S_REC_NOT_GAP), (.int (6 : Int32)), (.ref b1), (.ref b1)])) _
    refine st22 _ ?_
    show Steps p.tables e below (T22.setTop (mkF m 48 #[.val (.int p1), .unset] [(.ref b1)])) _
    refine XS.dup X22.here hx rfl (hb hby d1_48) rfl rfl ?_
    show Steps p.tables e below (T22.setTop (mkF m 49 #[.val (.int p1), .unset] [(.ref b1), (.ref b1)])) _
    refine XS.bipush X22.here hx rfl (hb hby d1_49) ?_
    show Steps p.tables e below (T22.setTop (mkF m 51 #[.val (.int p1), .unset] [(.int (7 : Int32)), (.ref b1), (.ref b1)])) _
    refine st23 _ ?_
    show Steps p.tables e below (T23.setTop (mkF m 54 #[.val (.int p1), .unset] [(.ref w_S_GAP), (.int (7 : Int32)), (.ref b1), (.ref b1)])) _
    refine st25 _ ?_
    show Steps p.tables e below (T25.setTop (mkF m 55 #[.val (.int p1), .unset] [(.ref b1)])) _
    refine XS.dup X25.here hx rfl (hb hby d1_55) rfl rfl ?_
    show Steps p.tables e below (T25.setTop (mkF m 56 #[.val (.int p1), .unset] [(.ref b1), (.ref b1)])) _
    refine XS.bipush X25.here hx rfl (hb hby d1_56) ?_
    show Steps p.tables e below (T25.setTop (mkF m 58 #[.val (.int p1), .unset] [(.int (8 : Int32)), (.ref b1), (.ref b1)])) _
    refine st26 _ ?_
    show Steps p.tables e below (T26.setTop (mkF m 61 #[.val (.int p1), .unset] [(.ref w_X_INSERT_INTENTION), (.int (8 : Int32)), (.ref b1), (.ref b1)])) _
    refine st28 _ ?_
    show Steps p.tables e below (T28.setTop (mkF m 62 #[.val (.int p1), .unset] [(.ref b1)])) _
    refine XS.dup X28.here hx rfl (hb hby d1_62) rfl rfl ?_
    show Steps p.tables e below (T28.setTop (mkF m 63 #[.val (.int p1), .unset] [(.ref b1), (.ref b1)])) _
    refine XS.bipush X28.here hx rfl (hb hby d1_63) ?_
    show Steps p.tables e below (T28.setTop (mkF m 65 #[.val (.int p1), .unset] [(.int (9 : Int32)), (.ref b1), (.ref b1)])) _
    refine st29 _ ?_
    show Steps p.tables e below (T29.setTop (mkF m 68 #[.val (.int p1), .unset] [(.ref w_AUTO_INC), (.int (9 : Int32)), (.ref b1), (.ref b1)])) _
    refine st31 _ ?_
    show Steps p.tables e below (T31.setTop (mkF m 69 #[.val (.int p1), .unset] [(.ref b1)])) _
    refine XS.astoreN X31.here hx rfl (hb hby d1_69) rfl rfl (l' := #[.val (.int p1), .val (.ref b1)]) rfl ?_
    show Steps p.tables e below (T31.setTop (mkF m 70 #[.val (.int p1), .val (.ref b1)] [])) _
    refine XS.aloadN X31.here hx rfl (hb hby d1_70) rfl rfl ?_
    show Steps p.tables e below (T31.setTop (mkF m 71 #[.val (.int p1), .val (.ref b1)] [(.ref b1)])) _
    refine XS.iloadN X31.here hx rfl (hb hby d1_71) rfl ?_
    show Steps p.tables e below (T31.setTop (mkF m 72 #[.val (.int p1), .val (.ref b1)] [(.int p1), (.ref b1)])) _
    refine X31.aaload hx (j := p1) (v := (.ref w_i)) (by rw [e31]; exact Ar32.1) (State.isArrayOf_alike hZ.alike Ar32.2.1) rfl Ar32.2.2 hin32 hat32 (g := (mkF m 72 #[.val (.int p1), .val (.ref b1)] [(.int p1), (.ref b1)])) rfl rfl (hb hby d1_72) _ ?_
    show Steps p.tables e below (T31.setTop (mkF m 73 #[.val (.int p1), .val (.ref b1)] [(.ref w_i)])) _
    exact retA X31 hx Bd.returns rfl rfl rfl (hb hby d1_73) hr
  · show own_QK (some (.ref w_i)) n0 h0 _ T31.heap _
    rw [e31]
    exact ⟨rfl, N31, KK31⟩
set_option maxRecDepth 65536 in
set_option maxHeartbeats 40000000 in
theorem rm3_0 (l : Launch) (Z : State) (a0 : Array Value) (hw : ∀ d ∈ tables_1, d.before a0 Z = true) (p1 : Int32) (p2 : Int32) (p3 : Int32) (h0 : Heap) (n0 : Nat) (O0 : Old Z n0 h0) (P1 : ¬ (p1 < (0 : Int32))) (P2 : p1 < (10 : Int32)) (P3 : List.getD ([(.int (3 : Int32)), (.int (2 : Int32)), (.int (252 : Int32)), (.int (72 : Int32)), (.int (144 : Int32)), (.int (224 : Int32)), (.int (64 : Int32)), (.int (128 : Int32)), (.int (0 : Int32)), (.int (512 : Int32))] : List Value) (p1 : Int32).toNatClampNeg (.int (0 : Int32)) = (.int p3)) (P4 : ((p3 >>> (p2 &&& 31)) &&& (1 : Int32)) = (0 : Int32)) :
    MetFree l (⟨"com/example/key_warden/keywarden/engine/LockModeCoversPinLaw", "expected", "(II)Z"⟩ : MethodName) (head1 [Jvm.Cond.code (⟨"com/example/key_warden/keywarden/engine/LockModeCoversPinLaw", "expected", "(II)Z"⟩ : MethodName) method_3_code 3 (some .boolean)] ({ frames := 0, cells := 1, slots := 10, locals := 0 } : Room)) (fun a U => a = #[(.int p1), (.int p2)] ∧ Z.Warmed39 U.vm ∧ U.heap = h0) (fun _ _ _ _ _ => True) (fun _ U o U' => ∃ v L, o = .returned v ∧ own_QK (some (.int (0 : Int32))) n0 h0 v U'.heap L ∧ FrameEnd U o U' L ({ frames := 0, cells := 1, slots := 10, locals := 0 } : Room).cells ({ frames := 0, cells := 1, slots := 10, locals := 0 } : Room).slots) := by
  refine MetFree.of_bodySF (plainFor_of_name pn_0) hisR ?_
  intro p e s m args below meth c s₁ Bd hml0 hP hK
  obtain ⟨rfl, hZ, hh⟩ := hP
  have hx := Bd.exec
  have hby := Bd.bytes
  have hml : c.maxLocals = 3 := hml0
  have hown : s.vm.findClass "com/example/key_warden/keywarden/engine/LockModeCoversPinLaw" = some m.cls := findClass_of_methodNamed Bd.named
  have hnm := (name_of_methodNamed Bd.named Bd.method).1
  have X0 : Stand p l e ({ frames := 0, cells := 1, slots := 10, locals := 0 } : Room) s m #[(.int p1), (.int p2)] below meth c s₁ [] 0 0 := Stand.of_body Bd
  have e0 : s₁.heap = h0 := by rw [← hh, Bd.state]; rfl
  have N0 := Fr.nil n0
  have pre0 : ∀ t, Steps p.tables e below (s₁.setTop (mkF m 0 #[.val (.int p1), .val (.int p2), .unset] [])) t → Steps p.tables e below (s₁.setTop (entryFrame m #[(.int p1), (.int p2)] 3)) t := fun t k => castTop (ef_3_II m p1 p2) k
  obtain ⟨T1, h1, k1, X1, e1, E1, A1, st1⟩ := newP X0 hx hZ (hw _ (List.mem_of_getElem? (i := 43) rfl)) e0 (g := (mkF m 2 #[.val (.int p1), .val (.int p2), .unset] [(.int (10 : Int32))])) rfl (hb hby d3_2) rfl (by decide) (cap := 10) (by decide) (by decide) (by decide) (by decide)
  obtain ⟨b1, gq1⟩ : ∃ z, z = h0.size := ⟨_, rfl⟩
  rw [← gq1] at A1 st1
  have g_b1 : n0 ≤ b1 := Nat.le_trans ((O0.1 ▸ O0.2.1) : n0 ≤ h0.size) (Nat.le_of_eq gq1.symm)
  have sz_b1 : h0.size ≤ b1 := Nat.le_trans (Keep.refl h0 []).1 (Nat.le_of_eq gq1.symm)
  have KK1 : Keep h0 h1 [] := (Keep.refl h0 []).ext E1
  have O1 := O0.ext E1
  have V1 : Arv Z h1 b1 k1 .int (10 : Int32) [(.int (0 : Int32)), (.int (0 : Int32)), (.int (0 : Int32)), (.int (0 : Int32)), (.int (0 : Int32)), (.int (0 : Int32)), (.int (0 : Int32)), (.int (0 : Int32)), (.int (0 : Int32)), (.int (0 : Int32))] (.int (0 : Int32)) := (Arv.new A1 (by decide)).pad (pad_rep [] (.int (0 : Int32)) 10)
  obtain ⟨cl2, Ar2, qr2, Sr2, Nr2, Hr2, Gr2⟩ := V1
  have hin2 : ¬ ((0 : Int32) < 0 ∨ cl2.slots.size ≤ ((0 : Int32) : Int32).toNatClampNeg) := inb_of Sr2 ⟨by decide, by decide⟩
  obtain ⟨T3, h3, X3, e3, W3, st3⟩ := stI X1 hx hZ e1 Ar2 (j := (0 : Int32)) hin2 (g := (mkF m 7 #[.val (.int p1), .val (.int p2), .unset] [(.int (3 : Int32)), (.int (0 : Int32)), (.ref b1), (.ref b1)])) rfl rfl (hb hby d3_7)
  have V3 : Arv Z h3 b1 k1 .int (10 : Int32) [(.int (3 : Int32)), (.int (0 : Int32)), (.int (0 : Int32)), (.int (0 : Int32)), (.int (0 : Int32)), (.int (0 : Int32)), (.int (0 : Int32)), (.int (0 : Int32)), (.int (0 : Int32)), (.int (0 : Int32))] (.int (0 : Int32)) := Arv.set Ar2 qr2 Sr2 Nr2 Hr2 Gr2 rfl W3 0 rfl (Nat.le_of_ble_eq_true rfl)
  have KK3 : Keep h0 h3 [] := KK1.wr W3 (Or.inr sz_b1)
  have O3 := O1.wr W3 g_b1
  have N3 := Fr.snoc X3 N0 g_b1
  obtain ⟨cl4, Ar4, qr4, Sr4, Nr4, Hr4, Gr4⟩ := V3
  have hin4 : ¬ ((1 : Int32) < 0 ∨ cl4.slots.size ≤ ((1 : Int32) : Int32).toNatClampNeg) := inb_of Sr4 ⟨by decide, by decide⟩
  obtain ⟨T5, h5, X5, e5, W5, st5⟩ := stI X3 hx hZ e3 Ar4 (j := (1 : Int32)) hin4 (g := (mkF m 11 #[.val (.int p1), .val (.int p2), .unset] [(.int (2 : Int32)), (.int (1 : Int32)), (.ref b1), (.ref b1)])) rfl rfl (hb hby d3_11)
  have V5 : Arv Z h5 b1 k1 .int (10 : Int32) [(.int (3 : Int32)), (.int (2 : Int32)), (.int (0 : Int32)), (.int (0 : Int32)), (.int (0 : Int32)), (.int (0 : Int32)), (.int (0 : Int32)), (.int (0 : Int32)), (.int (0 : Int32)), (.int (0 : Int32))] (.int (0 : Int32)) := Arv.set Ar4 qr4 Sr4 Nr4 Hr4 Gr4 rfl W5 1 rfl (Nat.le_of_ble_eq_true rfl)
  have KK5 : Keep h0 h5 [] := KK3.wr W5 (Or.inr sz_b1)
  have O5 := O3.wr W5 g_b1
  have N5 := Fr.snoc X5 N3 g_b1
  obtain ⟨cl6, Ar6, qr6, Sr6, Nr6, Hr6, Gr6⟩ := V5
  have hin6 : ¬ ((2 : Int32) < 0 ∨ cl6.slots.size ≤ ((2 : Int32) : Int32).toNatClampNeg) := inb_of Sr6 ⟨by decide, by decide⟩
  obtain ⟨T7, h7, X7, e7, W7, st7⟩ := stI X5 hx hZ e5 Ar6 (j := (2 : Int32)) hin6 (g := (mkF m 17 #[.val (.int p1), .val (.int p2), .unset] [(.int (252 : Int32)), (.int (2 : Int32)), (.ref b1), (.ref b1)])) rfl rfl (hb hby d3_17)
  have V7 : Arv Z h7 b1 k1 .int (10 : Int32) [(.int (3 : Int32)), (.int (2 : Int32)), (.int (252 : Int32)), (.int (0 : Int32)), (.int (0 : Int32)), (.int (0 : Int32)), (.int (0 : Int32)), (.int (0 : Int32)), (.int (0 : Int32)), (.int (0 : Int32))] (.int (0 : Int32)) := Arv.set Ar6 qr6 Sr6 Nr6 Hr6 Gr6 rfl W7 2 rfl (Nat.le_of_ble_eq_true rfl)
  have KK7 : Keep h0 h7 [] := KK5.wr W7 (Or.inr sz_b1)
  have O7 := O5.wr W7 g_b1
  have N7 := Fr.snoc X7 N5 g_b1
  obtain ⟨cl8, Ar8, qr8, Sr8, Nr8, Hr8, Gr8⟩ := V7
  have hin8 : ¬ ((3 : Int32) < 0 ∨ cl8.slots.size ≤ ((3 : Int32) : Int32).toNatClampNeg) := inb_of Sr8 ⟨by decide, by decide⟩
  obtain ⟨T9, h9, X9, e9, W9, st9⟩ := stI X7 hx hZ e7 Ar8 (j := (3 : Int32)) hin8 (g := (mkF m 22 #[.val (.int p1), .val (.int p2), .unset] [(.int (72 : Int32)), (.int (3 : Int32)), (.ref b1), (.ref b1)])) rfl rfl (hb hby d3_22)
  have V9 : Arv Z h9 b1 k1 .int (10 : Int32) [(.int (3 : Int32)), (.int (2 : Int32)), (.int (252 : Int32)), (.int (72 : Int32)), (.int (0 : Int32)), (.int (0 : Int32)), (.int (0 : Int32)), (.int (0 : Int32)), (.int (0 : Int32)), (.int (0 : Int32))] (.int (0 : Int32)) := Arv.set Ar8 qr8 Sr8 Nr8 Hr8 Gr8 rfl W9 3 rfl (Nat.le_of_ble_eq_true rfl)
  have KK9 : Keep h0 h9 [] := KK7.wr W9 (Or.inr sz_b1)
  have O9 := O7.wr W9 g_b1
  have N9 := Fr.snoc X9 N7 g_b1
  obtain ⟨cl10, Ar10, qr10, Sr10, Nr10, Hr10, Gr10⟩ := V9
  have hin10 : ¬ ((4 : Int32) < 0 ∨ cl10.slots.size ≤ ((4 : Int32) : Int32).toNatClampNeg) := inb_of Sr10 ⟨by decide, by decide⟩
  obtain ⟨T11, h11, X11, e11, W11, st11⟩ := stI X9 hx hZ e9 Ar10 (j := (4 : Int32)) hin10 (g := (mkF m 28 #[.val (.int p1), .val (.int p2), .unset] [(.int (144 : Int32)), (.int (4 : Int32)), (.ref b1), (.ref b1)])) rfl rfl (hb hby d3_28)
  have V11 : Arv Z h11 b1 k1 .int (10 : Int32) [(.int (3 : Int32)), (.int (2 : Int32)), (.int (252 : Int32)), (.int (72 : Int32)), (.int (144 : Int32)), (.int (0 : Int32)), (.int (0 : Int32)), (.int (0 : Int32)), (.int (0 : Int32)), (.int (0 : Int32))] (.int (0 : Int32)) := Arv.set Ar10 qr10 Sr10 Nr10 Hr10 Gr10 rfl W11 4 rfl (Nat.le_of_ble_eq_true rfl)
  have KK11 : Keep h0 h11 [] := KK9.wr W11 (Or.inr sz_b1)
  have O11 := O9.wr W11 g_b1
  have N11 := Fr.snoc X11 N9 g_b1
  obtain ⟨cl12, Ar12, qr12, Sr12, Nr12, Hr12, Gr12⟩ := V11
  have hin12 : ¬ ((5 : Int32) < 0 ∨ cl12.slots.size ≤ ((5 : Int32) : Int32).toNatClampNeg) := inb_of Sr12 ⟨by decide, by decide⟩
  obtain ⟨T13, h13, X13, e13, W13, st13⟩ := stI X11 hx hZ e11 Ar12 (j := (5 : Int32)) hin12 (g := (mkF m 34 #[.val (.int p1), .val (.int p2), .unset] [(.int (224 : Int32)), (.int (5 : Int32)), (.ref b1), (.ref b1)])) rfl rfl (hb hby d3_34)
  have V13 : Arv Z h13 b1 k1 .int (10 : Int32) [(.int (3 : Int32)), (.int (2 : Int32)), (.int (252 : Int32)), (.int (72 : Int32)), (.int (144 : Int32)), (.int (224 : Int32)), (.int (0 : Int32)), (.int (0 : Int32)), (.int (0 : Int32)), (.int (0 : Int32))] (.int (0 : Int32)) := Arv.set Ar12 qr12 Sr12 Nr12 Hr12 Gr12 rfl W13 5 rfl (Nat.le_of_ble_eq_true rfl)
  have KK13 : Keep h0 h13 [] := KK11.wr W13 (Or.inr sz_b1)
  have O13 := O11.wr W13 g_b1
  have N13 := Fr.snoc X13 N11 g_b1
  obtain ⟨cl14, Ar14, qr14, Sr14, Nr14, Hr14, Gr14⟩ := V13
  have hin14 : ¬ ((6 : Int32) < 0 ∨ cl14.slots.size ≤ ((6 : Int32) : Int32).toNatClampNeg) := inb_of Sr14 ⟨by decide, by decide⟩
  obtain ⟨T15, h15, X15, e15, W15, st15⟩ := stI X13 hx hZ e13 Ar14 (j := (6 : Int32)) hin14 (g := (mkF m 40 #[.val (.int p1), .val (.int p2), .unset] [(.int (64 : Int32)), (.int (6 : Int32)), (.ref b1), (.ref b1)])) rfl rfl (hb hby d3_40)
  have V15 : Arv Z h15 b1 k1 .int (10 : Int32) [(.int (3 : Int32)), (.int (2 : Int32)), (.int (252 : Int32)), (.int (72 : Int32)), (.int (144 : Int32)), (.int (224 : Int32)), (.int (64 : Int32)), (.int (0 : Int32)), (.int (0 : Int32)), (.int (0 : Int32))] (.int (0 : Int32)) := Arv.set Ar14 qr14 Sr14 Nr14 Hr14 Gr14 rfl W15 6 rfl (Nat.le_of_ble_eq_true rfl)
  have KK15 : Keep h0 h15 [] := KK13.wr W15 (Or.inr sz_b1)
  have O15 := O13.wr W15 g_b1
  have N15 := Fr.snoc X15 N13 g_b1
  obtain ⟨cl16, Ar16, qr16, Sr16, Nr16, Hr16, Gr16⟩ := V15
  have hin16 : ¬ ((7 : Int32) < 0 ∨ cl16.slots.size ≤ ((7 : Int32) : Int32).toNatClampNeg) := inb_of Sr16 ⟨by decide, by decide⟩
  obtain ⟨T17, h17, X17, e17, W17, st17⟩ := stI X15 hx hZ e15 Ar16 (j := (7 : Int32)) hin16 (g := (mkF m 47 #[.val (.int p1), .val (.int p2), .unset] [(.int (128 : Int32)), (.int (7 : Int32)), (.ref b1), (.ref b1)])) rfl rfl (hb hby d3_47)
  have V17 : Arv Z h17 b1 k1 .int (10 : Int32) [(.int (3 : Int32)), (.int (2 : Int32)), (.int (252 : Int32)), (.int (72 : Int32)), (.int (144 : Int32)), (.int (224 : Int32)), (.int (64 : Int32)), (.int (128 : Int32)), (.int (0 : Int32)), (.int (0 : Int32))] (.int (0 : Int32)) := Arv.set Ar16 qr16 Sr16 Nr16 Hr16 Gr16 rfl W17 7 rfl (Nat.le_of_ble_eq_true rfl)
  have KK17 : Keep h0 h17 [] := KK15.wr W17 (Or.inr sz_b1)
  have O17 := O15.wr W17 g_b1
  have N17 := Fr.snoc X17 N15 g_b1
  obtain ⟨cl18, Ar18, qr18, Sr18, Nr18, Hr18, Gr18⟩ := V17
  have hin18 : ¬ ((8 : Int32) < 0 ∨ cl18.slots.size ≤ ((8 : Int32) : Int32).toNatClampNeg) := inb_of Sr18 ⟨by decide, by decide⟩
  obtain ⟨T19, h19, X19, e19, W19, st19⟩ := stI X17 hx hZ e17 Ar18 (j := (8 : Int32)) hin18 (g := (mkF m 52 #[.val (.int p1), .val (.int p2), .unset] [(.int (0 : Int32)), (.int (8 : Int32)), (.ref b1), (.ref b1)])) rfl rfl (hb hby d3_52)
  have V19 : Arv Z h19 b1 k1 .int (10 : Int32) [(.int (3 : Int32)), (.int (2 : Int32)), (.int (252 : Int32)), (.int (72 : Int32)), (.int (144 : Int32)), (.int (224 : Int32)), (.int (64 : Int32)), (.int (128 : Int32)), (.int (0 : Int32)), (.int (0 : Int32))] (.int (0 : Int32)) := Arv.set Ar18 qr18 Sr18 Nr18 Hr18 Gr18 rfl W19 8 rfl (Nat.le_of_ble_eq_true rfl)
  have KK19 : Keep h0 h19 [] := KK17.wr W19 (Or.inr sz_b1)
  have O19 := O17.wr W19 g_b1
  have N19 := Fr.snoc X19 N17 g_b1
  obtain ⟨cl20, Ar20, qr20, Sr20, Nr20, Hr20, Gr20⟩ := V19
  have hin20 : ¬ ((9 : Int32) < 0 ∨ cl20.slots.size ≤ ((9 : Int32) : Int32).toNatClampNeg) := inb_of Sr20 ⟨by decide, by decide⟩
  obtain ⟨T21, h21, X21, e21, W21, st21⟩ := stI X19 hx hZ e19 Ar20 (j := (9 : Int32)) hin20 (g := (mkF m 59 #[.val (.int p1), .val (.int p2), .unset] [(.int (512 : Int32)), (.int (9 : Int32)), (.ref b1), (.ref b1)])) rfl rfl (hb hby d3_59)
  have V21 : Arv Z h21 b1 k1 .int (10 : Int32) [(.int (3 : Int32)), (.int (2 : Int32)), (.int (252 : Int32)), (.int (72 : Int32)), (.int (144 : Int32)), (.int (224 : Int32)), (.int (64 : Int32)), (.int (128 : Int32)), (.int (0 : Int32)), (.int (512 : Int32))] (.int (0 : Int32)) := Arv.set Ar20 qr20 Sr20 Nr20 Hr20 Gr20 rfl W21 9 rfl (Nat.le_of_ble_eq_true rfl)
  have KK21 : Keep h0 h21 [] := KK19.wr W21 (Or.inr sz_b1)
  have O21 := O19.wr W21 g_b1
  have N21 := Fr.snoc X21 N19 g_b1
  obtain ⟨cl22, Ar22, -, Sr22, -, Hr22, -⟩ := V21
  have hin22 : ¬ (p1 < 0 ∨ cl22.slots.size ≤ (p1 : Int32).toNatClampNeg) := inb_of Sr22 ⟨P1, P2⟩
  have hat22 : cl22.slots[(p1 : Int32).toNatClampNeg]? = some (.int p3) := Has.at Hr22 hin22 P3
  obtain ⟨fs, hr, hrun, hended, hW, hsame⟩ := X21.leave (v := (some (.int (0 : Int32)))) (fun h => by rw [Bd.returns] at h; cases h)
  refine ⟨_, _, pre0 _ ?_, hrun, hended, _, _, rfl, ?_, ⟨_, rfl⟩, hW, hsame.mono (by decide) (by decide)⟩
  · show Steps p.tables e below (s₁.setTop (mkF m 0 #[.val (.int p1), .val (.int p2), .unset] [])) _
    refine XS.bipush X0.here hx rfl (hb hby d3_0) ?_
    show Steps p.tables e below (s₁.setTop (mkF m 2 #[.val (.int p1), .val (.int p2), .unset] [(.int (10 : Int32))])) _
    refine st1 _ ?_
    show Steps p.tables e below (T1.setTop (mkF m 4 #[.val (.int p1), .val (.int p2), .unset] [(.ref b1)])) _
    refine XS.dup X1.here hx rfl (hb hby d3_4) rfl rfl ?_
    show Steps p.tables e below (T1.setTop (mkF m 5 #[.val (.int p1), .val (.int p2), .unset] [(.ref b1), (.ref b1)])) _
    refine XS.iconst X1.here hx rfl (hb hby d3_5) ?_
    show Steps p.tables e below (T1.setTop (mkF m 6 #[.val (.int p1), .val (.int p2), .unset] [(.int (0 : Int32)), (.ref b1), (.ref b1)])) _
    refine XS.iconst X1.here hx rfl (hb hby d3_6) ?_
    show Steps p.tables e below (T1.setTop (mkF m 7 #[.val (.int p1), .val (.int p2), .unset] [(.int (3 : Int32)), (.int (0 : Int32)), (.ref b1), (.ref b1)])) _
    refine st3 _ ?_
    show Steps p.tables e below (T3.setTop (mkF m 8 #[.val (.int p1), .val (.int p2), .unset] [(.ref b1)])) _
    refine XS.dup X3.here hx rfl (hb hby d3_8) rfl rfl ?_
    show Steps p.tables e below (T3.setTop (mkF m 9 #[.val (.int p1), .val (.int p2), .unset] [(.ref b1), (.ref b1)])) _
    refine XS.iconst X3.here hx rfl (hb hby d3_9) ?_
    show Steps p.tables e below (T3.setTop (mkF m 10 #[.val (.int p1), .val (.int p2), .unset] [(.int (1 : Int32)), (.ref b1), (.ref b1)])) _
    refine XS.iconst X3.here hx rfl (hb hby d3_10) ?_
    show Steps p.tables e below (T3.setTop (mkF m 11 #[.val (.int p1), .val (.int p2), .unset] [(.int (2 : Int32)), (.int (1 : Int32)), (.ref b1), (.ref b1)])) _
    refine st5 _ ?_
    show Steps p.tables e below (T5.setTop (mkF m 12 #[.val (.int p1), .val (.int p2), .unset] [(.ref b1)])) _
    refine XS.dup X5.here hx rfl (hb hby d3_12) rfl rfl ?_
    show Steps p.tables e below (T5.setTop (mkF m 13 #[.val (.int p1), .val (.int p2), .unset] [(.ref b1), (.ref b1)])) _
    refine XS.iconst X5.here hx rfl (hb hby d3_13) ?_
    show Steps p.tables e below (T5.setTop (mkF m 14 #[.val (.int p1), .val (.int p2), .unset] [(.int (2 : Int32)), (.ref b1), (.ref b1)])) _
    refine XS.sipush X5.here hx rfl (hb hby d3_14) ?_
    show Steps p.tables e below (T5.setTop (mkF m 17 #[.val (.int p1), .val (.int p2), .unset] [(.int (252 : Int32)), (.int (2 : Int32)), (.ref b1), (.ref b1)])) _
    refine st7 _ ?_
    show Steps p.tables e below (T7.setTop (mkF m 18 #[.val (.int p1), .val (.int p2), .unset] [(.ref b1)])) _
    refine XS.dup X7.here hx rfl (hb hby d3_18) rfl rfl ?_
    show Steps p.tables e below (T7.setTop (mkF m 19 #[.val (.int p1), .val (.int p2), .unset] [(.ref b1), (.ref b1)])) _
    refine XS.iconst X7.here hx rfl (hb hby d3_19) ?_
    show Steps p.tables e below (T7.setTop (mkF m 20 #[.val (.int p1), .val (.int p2), .unset] [(.int (3 : Int32)), (.ref b1), (.ref b1)])) _
    refine XS.bipush X7.here hx rfl (hb hby d3_20) ?_
    show Steps p.tables e below (T7.setTop (mkF m 22 #[.val (.int p1), .val (.int p2), .unset] [(.int (72 : Int32)), (.int (3 : Int32)), (.ref b1), (.ref b1)])) _
    refine st9 _ ?_
    show Steps p.tables e below (T9.setTop (mkF m 23 #[.val (.int p1), .val (.int p2), .unset] [(.ref b1)])) _
    refine XS.dup X9.here hx rfl (hb hby d3_23) rfl rfl ?_
    show Steps p.tables e below (T9.setTop (mkF m 24 #[.val (.int p1), .val (.int p2), .unset] [(.ref b1), (.ref b1)])) _
    refine XS.iconst X9.here hx rfl (hb hby d3_24) ?_
    show Steps p.tables e below (T9.setTop (mkF m 25 #[.val (.int p1), .val (.int p2), .unset] [(.int (4 : Int32)), (.ref b1), (.ref b1)])) _
    refine XS.sipush X9.here hx rfl (hb hby d3_25) ?_
    show Steps p.tables e below (T9.setTop (mkF m 28 #[.val (.int p1), .val (.int p2), .unset] [(.int (144 : Int32)), (.int (4 : Int32)), (.ref b1), (.ref b1)])) _
    refine st11 _ ?_
    show Steps p.tables e below (T11.setTop (mkF m 29 #[.val (.int p1), .val (.int p2), .unset] [(.ref b1)])) _
    refine XS.dup X11.here hx rfl (hb hby d3_29) rfl rfl ?_
    show Steps p.tables e below (T11.setTop (mkF m 30 #[.val (.int p1), .val (.int p2), .unset] [(.ref b1), (.ref b1)])) _
    refine XS.iconst X11.here hx rfl (hb hby d3_30) ?_
    show Steps p.tables e below (T11.setTop (mkF m 31 #[.val (.int p1), .val (.int p2), .unset] [(.int (5 : Int32)), (.ref b1), (.ref b1)])) _
    refine XS.sipush X11.here hx rfl (hb hby d3_31) ?_
    show Steps p.tables e below (T11.setTop (mkF m 34 #[.val (.int p1), .val (.int p2), .unset] [(.int (224 : Int32)), (.int (5 : Int32)), (.ref b1), (.ref b1)])) _
    refine st13 _ ?_
    show Steps p.tables e below (T13.setTop (mkF m 35 #[.val (.int p1), .val (.int p2), .unset] [(.ref b1)])) _
    refine XS.dup X13.here hx rfl (hb hby d3_35) rfl rfl ?_
    show Steps p.tables e below (T13.setTop (mkF m 36 #[.val (.int p1), .val (.int p2), .unset] [(.ref b1), (.ref b1)])) _
    refine XS.bipush X13.here hx rfl (hb hby d3_36) ?_
    show Steps p.tables e below (T13.setTop (mkF m 38 #[.val (.int p1), .val (.int p2), .unset] [(.int (6 : Int32)), (.ref b1), (.ref b1)])) _
    refine XS.bipush X13.here hx rfl (hb hby d3_38) ?_
    show Steps p.tables e below (T13.setTop (mkF m 40 #[.val (.int p1), .val (.int p2), .unset] [(.int (64 : Int32)), (.int (6 : Int32)), (.ref b1), (.ref b1)])) _
    refine st15 _ ?_
    show Steps p.tables e below (T15.setTop (mkF m 41 #[.val (.int p1), .val (.int p2), .unset] [(.ref b1)])) _
    refine XS.dup X15.here hx rfl (hb hby d3_41) rfl rfl ?_
    show Steps p.tables e below (T15.setTop (mkF m 42 #[.val (.int p1), .val (.int p2), .unset] [(.ref b1), (.ref b1)])) _
    refine XS.bipush X15.here hx rfl (hb hby d3_42) ?_
    show Steps p.tables e below (T15.setTop (mkF m 44 #[.val (.int p1), .val (.int p2), .unset] [(.int (7 : Int32)), (.ref b1), (.ref b1)])) _
    refine XS.sipush X15.here hx rfl (hb hby d3_44) ?_
    show Steps p.tables e below (T15.setTop (mkF m 47 #[.val (.int p1), .val (.int p2), .unset] [(.int (128 : Int32)), (.int (7 : Int32)), (.ref b1), (.ref b1)])) _
    refine st17 _ ?_
    show Steps p.tables e below (T17.setTop (mkF m 48 #[.val (.int p1), .val (.int p2), .unset] [(.ref b1)])) _
    refine XS.dup X17.here hx rfl (hb hby d3_48) rfl rfl ?_
    show Steps p.tables e below (T17.setTop (mkF m 49 #[.val (.int p1), .val (.int p2), .unset] [(.ref b1), (.ref b1)])) _
    refine XS.bipush X17.here hx rfl (hb hby d3_49) ?_
    show Steps p.tables e below (T17.setTop (mkF m 51 #[.val (.int p1), .val (.int p2), .unset] [(.int (8 : Int32)), (.ref b1), (.ref b1)])) _
    refine XS.iconst X17.here hx rfl (hb hby d3_51) ?_
    show Steps p.tables e below (T17.setTop (mkF m 52 #[.val (.int p1), .val (.int p2), .unset] [(.int (0 : Int32)), (.int (8 : Int32)), (.ref b1), (.ref b1)])) _
    refine st19 _ ?_
    show Steps p.tables e below (T19.setTop (mkF m 53 #[.val (.int p1), .val (.int p2), .unset] [(.ref b1)])) _
    refine XS.dup X19.here hx rfl (hb hby d3_53) rfl rfl ?_
    show Steps p.tables e below (T19.setTop (mkF m 54 #[.val (.int p1), .val (.int p2), .unset] [(.ref b1), (.ref b1)])) _
    refine XS.bipush X19.here hx rfl (hb hby d3_54) ?_
    show Steps p.tables e below (T19.setTop (mkF m 56 #[.val (.int p1), .val (.int p2), .unset] [(.int (9 : Int32)), (.ref b1), (.ref b1)])) _
    refine XS.sipush X19.here hx rfl (hb hby d3_56) ?_
    show Steps p.tables e below (T19.setTop (mkF m 59 #[.val (.int p1), .val (.int p2), .unset] [(.int (512 : Int32)), (.int (9 : Int32)), (.ref b1), (.ref b1)])) _
    refine st21 _ ?_
    show Steps p.tables e below (T21.setTop (mkF m 60 #[.val (.int p1), .val (.int p2), .unset] [(.ref b1)])) _
    refine XS.astoreN X21.here hx rfl (hb hby d3_60) rfl rfl (l' := #[.val (.int p1), .val (.int p2), .val (.ref b1)]) rfl ?_
    show Steps p.tables e below (T21.setTop (mkF m 61 #[.val (.int p1), .val (.int p2), .val (.ref b1)] [])) _
    refine XS.aloadN X21.here hx rfl (hb hby d3_61) rfl rfl ?_
    show Steps p.tables e below (T21.setTop (mkF m 62 #[.val (.int p1), .val (.int p2), .val (.ref b1)] [(.ref b1)])) _
    refine XS.iloadN X21.here hx rfl (hb hby d3_62) rfl ?_
    show Steps p.tables e below (T21.setTop (mkF m 63 #[.val (.int p1), .val (.int p2), .val (.ref b1)] [(.int p1), (.ref b1)])) _
    refine X21.iaload hx (j := p1) (v := (.int p3)) (by rw [e21]; exact Ar22.1) (State.isArrayOf_alike hZ.alike Ar22.2.1) Ar22.2.2 hin22 hat22 (g := (mkF m 63 #[.val (.int p1), .val (.int p2), .val (.ref b1)] [(.int p1), (.ref b1)])) rfl rfl (hb hby d3_63) _ ?_
    show Steps p.tables e below (T21.setTop (mkF m 64 #[.val (.int p1), .val (.int p2), .val (.ref b1)] [(.int p3)])) _
    refine XS.iloadN X21.here hx rfl (hb hby d3_64) rfl ?_
    show Steps p.tables e below (T21.setTop (mkF m 65 #[.val (.int p1), .val (.int p2), .val (.ref b1)] [(.int p2), (.int p3)])) _
    refine XS.ishr X21.here hx rfl (hb hby d3_65) rfl ?_
    show Steps p.tables e below (T21.setTop (mkF m 66 #[.val (.int p1), .val (.int p2), .val (.ref b1)] [(.int (p3 >>> (p2 &&& 31)))])) _
    refine XS.iconst X21.here hx rfl (hb hby d3_66) ?_
    show Steps p.tables e below (T21.setTop (mkF m 67 #[.val (.int p1), .val (.int p2), .val (.ref b1)] [(.int (1 : Int32)), (.int (p3 >>> (p2 &&& 31)))])) _
    refine XS.iand X21.here hx rfl (hb hby d3_67) rfl ?_
    show Steps p.tables e below (T21.setTop (mkF m 68 #[.val (.int p1), .val (.int p2), .val (.ref b1)] [(.int ((p3 >>> (p2 &&& 31)) &&& (1 : Int32)))])) _
    refine XS.ifYes X21.here hx rfl (pc0 := 68) (pc' := 75) rfl (hb hby d3_68) rfl ((if0 _ _).trans (teq P4).1) (by decide) (by decide) ?_
    show Steps p.tables e below (T21.setTop (mkF m 75 #[.val (.int p1), .val (.int p2), .val (.ref b1)] [])) _
    refine XS.iconst X21.here hx rfl (hb hby d3_75) ?_
    show Steps p.tables e below (T21.setTop (mkF m 76 #[.val (.int p1), .val (.int p2), .val (.ref b1)] [(.int (0 : Int32))])) _
    exact retN X21 hx (t := .boolean) Bd.returns (by simp) (hb hby d3_76) hr
  · show own_QK (some (.int (0 : Int32))) n0 h0 _ T21.heap _
    rw [e21]
    exact ⟨rfl, N21, KK21⟩
set_option maxRecDepth 65536 in
set_option maxHeartbeats 40000000 in
theorem rm3_1 (l : Launch) (Z : State) (a0 : Array Value) (hw : ∀ d ∈ tables_1, d.before a0 Z = true) (p1 : Int32) (p2 : Int32) (p3 : Int32) (h0 : Heap) (n0 : Nat) (O0 : Old Z n0 h0) (P1 : ¬ (p1 < (0 : Int32))) (P2 : p1 < (10 : Int32)) (P3 : List.getD ([(.int (3 : Int32)), (.int (2 : Int32)), (.int (252 : Int32)), (.int (72 : Int32)), (.int (144 : Int32)), (.int (224 : Int32)), (.int (64 : Int32)), (.int (128 : Int32)), (.int (0 : Int32)), (.int (512 : Int32))] : List Value) (p1 : Int32).toNatClampNeg (.int (0 : Int32)) = (.int p3)) (P4 : ¬ (((p3 >>> (p2 &&& 31)) &&& (1 : Int32)) = (0 : Int32))) :
    MetFree l (⟨"com/example/key_warden/keywarden/engine/LockModeCoversPinLaw", "expected", "(II)Z"⟩ : MethodName) (head1 [Jvm.Cond.code (⟨"com/example/key_warden/keywarden/engine/LockModeCoversPinLaw", "expected", "(II)Z"⟩ : MethodName) method_3_code 3 (some .boolean)] ({ frames := 0, cells := 1, slots := 10, locals := 0 } : Room)) (fun a U => a = #[(.int p1), (.int p2)] ∧ Z.Warmed39 U.vm ∧ U.heap = h0) (fun _ _ _ _ _ => True) (fun _ U o U' => ∃ v L, o = .returned v ∧ own_QK (some (.int (1 : Int32))) n0 h0 v U'.heap L ∧ FrameEnd U o U' L ({ frames := 0, cells := 1, slots := 10, locals := 0 } : Room).cells ({ frames := 0, cells := 1, slots := 10, locals := 0 } : Room).slots) := by
  refine MetFree.of_bodySF (plainFor_of_name pn_0) hisR ?_
  intro p e s m args below meth c s₁ Bd hml0 hP hK
  obtain ⟨rfl, hZ, hh⟩ := hP
  have hx := Bd.exec
  have hby := Bd.bytes
  have hml : c.maxLocals = 3 := hml0
  have hown : s.vm.findClass "com/example/key_warden/keywarden/engine/LockModeCoversPinLaw" = some m.cls := findClass_of_methodNamed Bd.named
  have hnm := (name_of_methodNamed Bd.named Bd.method).1
  have X0 : Stand p l e ({ frames := 0, cells := 1, slots := 10, locals := 0 } : Room) s m #[(.int p1), (.int p2)] below meth c s₁ [] 0 0 := Stand.of_body Bd
  have e0 : s₁.heap = h0 := by rw [← hh, Bd.state]; rfl
  have N0 := Fr.nil n0
  have pre0 : ∀ t, Steps p.tables e below (s₁.setTop (mkF m 0 #[.val (.int p1), .val (.int p2), .unset] [])) t → Steps p.tables e below (s₁.setTop (entryFrame m #[(.int p1), (.int p2)] 3)) t := fun t k => castTop (ef_3_II m p1 p2) k
  obtain ⟨T1, h1, k1, X1, e1, E1, A1, st1⟩ := newP X0 hx hZ (hw _ (List.mem_of_getElem? (i := 43) rfl)) e0 (g := (mkF m 2 #[.val (.int p1), .val (.int p2), .unset] [(.int (10 : Int32))])) rfl (hb hby d3_2) rfl (by decide) (cap := 10) (by decide) (by decide) (by decide) (by decide)
  obtain ⟨b1, gq1⟩ : ∃ z, z = h0.size := ⟨_, rfl⟩
  rw [← gq1] at A1 st1
  have g_b1 : n0 ≤ b1 := Nat.le_trans ((O0.1 ▸ O0.2.1) : n0 ≤ h0.size) (Nat.le_of_eq gq1.symm)
  have sz_b1 : h0.size ≤ b1 := Nat.le_trans (Keep.refl h0 []).1 (Nat.le_of_eq gq1.symm)
  have KK1 : Keep h0 h1 [] := (Keep.refl h0 []).ext E1
  have O1 := O0.ext E1
  have V1 : Arv Z h1 b1 k1 .int (10 : Int32) [(.int (0 : Int32)), (.int (0 : Int32)), (.int (0 : Int32)), (.int (0 : Int32)), (.int (0 : Int32)), (.int (0 : Int32)), (.int (0 : Int32)), (.int (0 : Int32)), (.int (0 : Int32)), (.int (0 : Int32))] (.int (0 : Int32)) := (Arv.new A1 (by decide)).pad (pad_rep [] (.int (0 : Int32)) 10)
  obtain ⟨cl2, Ar2, qr2, Sr2, Nr2, Hr2, Gr2⟩ := V1
  have hin2 : ¬ ((0 : Int32) < 0 ∨ cl2.slots.size ≤ ((0 : Int32) : Int32).toNatClampNeg) := inb_of Sr2 ⟨by decide, by decide⟩
  obtain ⟨T3, h3, X3, e3, W3, st3⟩ := stI X1 hx hZ e1 Ar2 (j := (0 : Int32)) hin2 (g := (mkF m 7 #[.val (.int p1), .val (.int p2), .unset] [(.int (3 : Int32)), (.int (0 : Int32)), (.ref b1), (.ref b1)])) rfl rfl (hb hby d3_7)
  have V3 : Arv Z h3 b1 k1 .int (10 : Int32) [(.int (3 : Int32)), (.int (0 : Int32)), (.int (0 : Int32)), (.int (0 : Int32)), (.int (0 : Int32)), (.int (0 : Int32)), (.int (0 : Int32)), (.int (0 : Int32)), (.int (0 : Int32)), (.int (0 : Int32))] (.int (0 : Int32)) := Arv.set Ar2 qr2 Sr2 Nr2 Hr2 Gr2 rfl W3 0 rfl (Nat.le_of_ble_eq_true rfl)
  have KK3 : Keep h0 h3 [] := KK1.wr W3 (Or.inr sz_b1)
  have O3 := O1.wr W3 g_b1
  have N3 := Fr.snoc X3 N0 g_b1
  obtain ⟨cl4, Ar4, qr4, Sr4, Nr4, Hr4, Gr4⟩ := V3
  have hin4 : ¬ ((1 : Int32) < 0 ∨ cl4.slots.size ≤ ((1 : Int32) : Int32).toNatClampNeg) := inb_of Sr4 ⟨by decide, by decide⟩
  obtain ⟨T5, h5, X5, e5, W5, st5⟩ := stI X3 hx hZ e3 Ar4 (j := (1 : Int32)) hin4 (g := (mkF m 11 #[.val (.int p1), .val (.int p2), .unset] [(.int (2 : Int32)), (.int (1 : Int32)), (.ref b1), (.ref b1)])) rfl rfl (hb hby d3_11)
  have V5 : Arv Z h5 b1 k1 .int (10 : Int32) [(.int (3 : Int32)), (.int (2 : Int32)), (.int (0 : Int32)), (.int (0 : Int32)), (.int (0 : Int32)), (.int (0 : Int32)), (.int (0 : Int32)), (.int (0 : Int32)), (.int (0 : Int32)), (.int (0 : Int32))] (.int (0 : Int32)) := Arv.set Ar4 qr4 Sr4 Nr4 Hr4 Gr4 rfl W5 1 rfl (Nat.le_of_ble_eq_true rfl)
  have KK5 : Keep h0 h5 [] := KK3.wr W5 (Or.inr sz_b1)
  have O5 := O3.wr W5 g_b1
  have N5 := Fr.snoc X5 N3 g_b1
  obtain ⟨cl6, Ar6, qr6, Sr6, Nr6, Hr6, Gr6⟩ := V5
  have hin6 : ¬ ((2 : Int32) < 0 ∨ cl6.slots.size ≤ ((2 : Int32) : Int32).toNatClampNeg) := inb_of Sr6 ⟨by decide, by decide⟩
  obtain ⟨T7, h7, X7, e7, W7, st7⟩ := stI X5 hx hZ e5 Ar6 (j := (2 : Int32)) hin6 (g := (mkF m 17 #[.val (.int p1), .val (.int p2), .unset] [(.int (252 : Int32)), (.int (2 : Int32)), (.ref b1), (.ref b1)])) rfl rfl (hb hby d3_17)
  have V7 : Arv Z h7 b1 k1 .int (10 : Int32) [(.int (3 : Int32)), (.int (2 : Int32)), (.int (252 : Int32)), (.int (0 : Int32)), (.int (0 : Int32)), (.int (0 : Int32)), (.int (0 : Int32)), (.int (0 : Int32)), (.int (0 : Int32)), (.int (0 : Int32))] (.int (0 : Int32)) := Arv.set Ar6 qr6 Sr6 Nr6 Hr6 Gr6 rfl W7 2 rfl (Nat.le_of_ble_eq_true rfl)
  have KK7 : Keep h0 h7 [] := KK5.wr W7 (Or.inr sz_b1)
  have O7 := O5.wr W7 g_b1
  have N7 := Fr.snoc X7 N5 g_b1
  obtain ⟨cl8, Ar8, qr8, Sr8, Nr8, Hr8, Gr8⟩ := V7
  have hin8 : ¬ ((3 : Int32) < 0 ∨ cl8.slots.size ≤ ((3 : Int32) : Int32).toNatClampNeg) := inb_of Sr8 ⟨by decide, by decide⟩
  obtain ⟨T9, h9, X9, e9, W9, st9⟩ := stI X7 hx hZ e7 Ar8 (j := (3 : Int32)) hin8 (g := (mkF m 22 #[.val (.int p1), .val (.int p2), .unset] [(.int (72 : Int32)), (.int (3 : Int32)), (.ref b1), (.ref b1)])) rfl rfl (hb hby d3_22)
  have V9 : Arv Z h9 b1 k1 .int (10 : Int32) [(.int (3 : Int32)), (.int (2 : Int32)), (.int (252 : Int32)), (.int (72 : Int32)), (.int (0 : Int32)), (.int (0 : Int32)), (.int (0 : Int32)), (.int (0 : Int32)), (.int (0 : Int32)), (.int (0 : Int32))] (.int (0 : Int32)) := Arv.set Ar8 qr8 Sr8 Nr8 Hr8 Gr8 rfl W9 3 rfl (Nat.le_of_ble_eq_true rfl)
  have KK9 : Keep h0 h9 [] := KK7.wr W9 (Or.inr sz_b1)
  have O9 := O7.wr W9 g_b1
  have N9 := Fr.snoc X9 N7 g_b1
  obtain ⟨cl10, Ar10, qr10, Sr10, Nr10, Hr10, Gr10⟩ := V9
  have hin10 : ¬ ((4 : Int32) < 0 ∨ cl10.slots.size ≤ ((4 : Int32) : Int32).toNatClampNeg) := inb_of Sr10 ⟨by decide, by decide⟩
  obtain ⟨T11, h11, X11, e11, W11, st11⟩ := stI X9 hx hZ e9 Ar10 (j := (4 : Int32)) hin10 (g := (mkF m 28 #[.val (.int p1), .val (.int p2), .unset] [(.int (144 : Int32)), (.int (4 : Int32)), (.ref b1), (.ref b1)])) rfl rfl (hb hby d3_28)
  have V11 : Arv Z h11 b1 k1 .int (10 : Int32) [(.int (3 : Int32)), (.int (2 : Int32)), (.int (252 : Int32)), (.int (72 : Int32)), (.int (144 : Int32)), (.int (0 : Int32)), (.int (0 : Int32)), (.int (0 : Int32)), (.int (0 : Int32)), (.int (0 : Int32))] (.int (0 : Int32)) := Arv.set Ar10 qr10 Sr10 Nr10 Hr10 Gr10 rfl W11 4 rfl (Nat.le_of_ble_eq_true rfl)
  have KK11 : Keep h0 h11 [] := KK9.wr W11 (Or.inr sz_b1)
  have O11 := O9.wr W11 g_b1
  have N11 := Fr.snoc X11 N9 g_b1
  obtain ⟨cl12, Ar12, qr12, Sr12, Nr12, Hr12, Gr12⟩ := V11
  have hin12 : ¬ ((5 : Int32) < 0 ∨ cl12.slots.size ≤ ((5 : Int32) : Int32).toNatClampNeg) := inb_of Sr12 ⟨by decide, by decide⟩
  obtain ⟨T13, h13, X13, e13, W13, st13⟩ := stI X11 hx hZ e11 Ar12 (j := (5 : Int32)) hin12 (g := (mkF m 34 #[.val (.int p1), .val (.int p2), .unset] [(.int (224 : Int32)), (.int (5 : Int32)), (.ref b1), (.ref b1)])) rfl rfl (hb hby d3_34)
  have V13 : Arv Z h13 b1 k1 .int (10 : Int32) [(.int (3 : Int32)), (.int (2 : Int32)), (.int (252 : Int32)), (.int (72 : Int32)), (.int (144 : Int32)), (.int (224 : Int32)), (.int (0 : Int32)), (.int (0 : Int32)), (.int (0 : Int32)), (.int (0 : Int32))] (.int (0 : Int32)) := Arv.set Ar12 qr12 Sr12 Nr12 Hr12 Gr12 rfl W13 5 rfl (Nat.le_of_ble_eq_true rfl)
  have KK13 : Keep h0 h13 [] := KK11.wr W13 (Or.inr sz_b1)
  have O13 := O11.wr W13 g_b1
  have N13 := Fr.snoc X13 N11 g_b1
  obtain ⟨cl14, Ar14, qr14, Sr14, Nr14, Hr14, Gr14⟩ := V13
  have hin14 : ¬ ((6 : Int32) < 0 ∨ cl14.slots.size ≤ ((6 : Int32) : Int32).toNatClampNeg) := inb_of Sr14 ⟨by decide, by decide⟩
  obtain ⟨T15, h15, X15, e15, W15, st15⟩ := stI X13 hx hZ e13 Ar14 (j := (6 : Int32)) hin14 (g := (mkF m 40 #[.val (.int p1), .val (.int p2), .unset] [(.int (64 : Int32)), (.int (6 : Int32)), (.ref b1), (.ref b1)])) rfl rfl (hb hby d3_40)
  have V15 : Arv Z h15 b1 k1 .int (10 : Int32) [(.int (3 : Int32)), (.int (2 : Int32)), (.int (252 : Int32)), (.int (72 : Int32)), (.int (144 : Int32)), (.int (224 : Int32)), (.int (64 : Int32)), (.int (0 : Int32)), (.int (0 : Int32)), (.int (0 : Int32))] (.int (0 : Int32)) := Arv.set Ar14 qr14 Sr14 Nr14 Hr14 Gr14 rfl W15 6 rfl (Nat.le_of_ble_eq_true rfl)
  have KK15 : Keep h0 h15 [] := KK13.wr W15 (Or.inr sz_b1)
  have O15 := O13.wr W15 g_b1
  have N15 := Fr.snoc X15 N13 g_b1
  obtain ⟨cl16, Ar16, qr16, Sr16, Nr16, Hr16, Gr16⟩ := V15
  have hin16 : ¬ ((7 : Int32) < 0 ∨ cl16.slots.size ≤ ((7 : Int32) : Int32).toNatClampNeg) := inb_of Sr16 ⟨by decide, by decide⟩
  obtain ⟨T17, h17, X17, e17, W17, st17⟩ := stI X15 hx hZ e15 Ar16 (j := (7 : Int32)) hin16 (g := (mkF m 47 #[.val (.int p1), .val (.int p2), .unset] [(.int (128 : Int32)), (.int (7 : Int32)), (.ref b1), (.ref b1)])) rfl rfl (hb hby d3_47)
  have V17 : Arv Z h17 b1 k1 .int (10 : Int32) [(.int (3 : Int32)), (.int (2 : Int32)), (.int (252 : Int32)), (.int (72 : Int32)), (.int (144 : Int32)), (.int (224 : Int32)), (.int (64 : Int32)), (.int (128 : Int32)), (.int (0 : Int32)), (.int (0 : Int32))] (.int (0 : Int32)) := Arv.set Ar16 qr16 Sr16 Nr16 Hr16 Gr16 rfl W17 7 rfl (Nat.le_of_ble_eq_true rfl)
  have KK17 : Keep h0 h17 [] := KK15.wr W17 (Or.inr sz_b1)
  have O17 := O15.wr W17 g_b1
  have N17 := Fr.snoc X17 N15 g_b1
  obtain ⟨cl18, Ar18, qr18, Sr18, Nr18, Hr18, Gr18⟩ := V17
  have hin18 : ¬ ((8 : Int32) < 0 ∨ cl18.slots.size ≤ ((8 : Int32) : Int32).toNatClampNeg) := inb_of Sr18 ⟨by decide, by decide⟩
  obtain ⟨T19, h19, X19, e19, W19, st19⟩ := stI X17 hx hZ e17 Ar18 (j := (8 : Int32)) hin18 (g := (mkF m 52 #[.val (.int p1), .val (.int p2), .unset] [(.int (0 : Int32)), (.int (8 : Int32)), (.ref b1), (.ref b1)])) rfl rfl (hb hby d3_52)
  have V19 : Arv Z h19 b1 k1 .int (10 : Int32) [(.int (3 : Int32)), (.int (2 : Int32)), (.int (252 : Int32)), (.int (72 : Int32)), (.int (144 : Int32)), (.int (224 : Int32)), (.int (64 : Int32)), (.int (128 : Int32)), (.int (0 : Int32)), (.int (0 : Int32))] (.int (0 : Int32)) := Arv.set Ar18 qr18 Sr18 Nr18 Hr18 Gr18 rfl W19 8 rfl (Nat.le_of_ble_eq_true rfl)
  have KK19 : Keep h0 h19 [] := KK17.wr W19 (Or.inr sz_b1)
  have O19 := O17.wr W19 g_b1
  have N19 := Fr.snoc X19 N17 g_b1
  obtain ⟨cl20, Ar20, qr20, Sr20, Nr20, Hr20, Gr20⟩ := V19
  have hin20 : ¬ ((9 : Int32) < 0 ∨ cl20.slots.size ≤ ((9 : Int32) : Int32).toNatClampNeg) := inb_of Sr20 ⟨by decide, by decide⟩
  obtain ⟨T21, h21, X21, e21, W21, st21⟩ := stI X19 hx hZ e19 Ar20 (j := (9 : Int32)) hin20 (g := (mkF m 59 #[.val (.int p1), .val (.int p2), .unset] [(.int (512 : Int32)), (.int (9 : Int32)), (.ref b1), (.ref b1)])) rfl rfl (hb hby d3_59)
  have V21 : Arv Z h21 b1 k1 .int (10 : Int32) [(.int (3 : Int32)), (.int (2 : Int32)), (.int (252 : Int32)), (.int (72 : Int32)), (.int (144 : Int32)), (.int (224 : Int32)), (.int (64 : Int32)), (.int (128 : Int32)), (.int (0 : Int32)), (.int (512 : Int32))] (.int (0 : Int32)) := Arv.set Ar20 qr20 Sr20 Nr20 Hr20 Gr20 rfl W21 9 rfl (Nat.le_of_ble_eq_true rfl)
  have KK21 : Keep h0 h21 [] := KK19.wr W21 (Or.inr sz_b1)
  have O21 := O19.wr W21 g_b1
  have N21 := Fr.snoc X21 N19 g_b1
  obtain ⟨cl22, Ar22, -, Sr22, -, Hr22, -⟩ := V21
  have hin22 : ¬ (p1 < 0 ∨ cl22.slots.size ≤ (p1 : Int32).toNatClampNeg) := inb_of Sr22 ⟨P1, P2⟩
  have hat22 : cl22.slots[(p1 : Int32).toNatClampNeg]? = some (.int p3) := Has.at Hr22 hin22 P3
  obtain ⟨fs, hr, hrun, hended, hW, hsame⟩ := X21.leave (v := (some (.int (1 : Int32)))) (fun h => by rw [Bd.returns] at h; cases h)
  refine ⟨_, _, pre0 _ ?_, hrun, hended, _, _, rfl, ?_, ⟨_, rfl⟩, hW, hsame.mono (by decide) (by decide)⟩
  · show Steps p.tables e below (s₁.setTop (mkF m 0 #[.val (.int p1), .val (.int p2), .unset] [])) _
    refine XS.bipush X0.here hx rfl (hb hby d3_0) ?_
    show Steps p.tables e below (s₁.setTop (mkF m 2 #[.val (.int p1), .val (.int p2), .unset] [(.int (10 : Int32))])) _
    refine st1 _ ?_
    show Steps p.tables e below (T1.setTop (mkF m 4 #[.val (.int p1), .val (.int p2), .unset] [(.ref b1)])) _
    refine XS.dup X1.here hx rfl (hb hby d3_4) rfl rfl ?_
    show Steps p.tables e below (T1.setTop (mkF m 5 #[.val (.int p1), .val (.int p2), .unset] [(.ref b1), (.ref b1)])) _
    refine XS.iconst X1.here hx rfl (hb hby d3_5) ?_
    show Steps p.tables e below (T1.setTop (mkF m 6 #[.val (.int p1), .val (.int p2), .unset] [(.int (0 : Int32)), (.ref b1), (.ref b1)])) _
    refine XS.iconst X1.here hx rfl (hb hby d3_6) ?_
    show Steps p.tables e below (T1.setTop (mkF m 7 #[.val (.int p1), .val (.int p2), .unset] [(.int (3 : Int32)), (.int (0 : Int32)), (.ref b1), (.ref b1)])) _
    refine st3 _ ?_
    show Steps p.tables e below (T3.setTop (mkF m 8 #[.val (.int p1), .val (.int p2), .unset] [(.ref b1)])) _
    refine XS.dup X3.here hx rfl (hb hby d3_8) rfl rfl ?_
    show Steps p.tables e below (T3.setTop (mkF m 9 #[.val (.int p1), .val (.int p2), .unset] [(.ref b1), (.ref b1)])) _
    refine XS.iconst X3.here hx rfl (hb hby d3_9) ?_
    show Steps p.tables e below (T3.setTop (mkF m 10 #[.val (.int p1), .val (.int p2), .unset] [(.int (1 : Int32)), (.ref b1), (.ref b1)])) _
    refine XS.iconst X3.here hx rfl (hb hby d3_10) ?_
    show Steps p.tables e below (T3.setTop (mkF m 11 #[.val (.int p1), .val (.int p2), .unset] [(.int (2 : Int32)), (.int (1 : Int32)), (.ref b1), (.ref b1)])) _
    refine st5 _ ?_
    show Steps p.tables e below (T5.setTop (mkF m 12 #[.val (.int p1), .val (.int p2), .unset] [(.ref b1)])) _
    refine XS.dup X5.here hx rfl (hb hby d3_12) rfl rfl ?_
    show Steps p.tables e below (T5.setTop (mkF m 13 #[.val (.int p1), .val (.int p2), .unset] [(.ref b1), (.ref b1)])) _
    refine XS.iconst X5.here hx rfl (hb hby d3_13) ?_
    show Steps p.tables e below (T5.setTop (mkF m 14 #[.val (.int p1), .val (.int p2), .unset] [(.int (2 : Int32)), (.ref b1), (.ref b1)])) _
    refine XS.sipush X5.here hx rfl (hb hby d3_14) ?_
    show Steps p.tables e below (T5.setTop (mkF m 17 #[.val (.int p1), .val (.int p2), .unset] [(.int (252 : Int32)), (.int (2 : Int32)), (.ref b1), (.ref b1)])) _
    refine st7 _ ?_
    show Steps p.tables e below (T7.setTop (mkF m 18 #[.val (.int p1), .val (.int p2), .unset] [(.ref b1)])) _
    refine XS.dup X7.here hx rfl (hb hby d3_18) rfl rfl ?_
    show Steps p.tables e below (T7.setTop (mkF m 19 #[.val (.int p1), .val (.int p2), .unset] [(.ref b1), (.ref b1)])) _
    refine XS.iconst X7.here hx rfl (hb hby d3_19) ?_
    show Steps p.tables e below (T7.setTop (mkF m 20 #[.val (.int p1), .val (.int p2), .unset] [(.int (3 : Int32)), (.ref b1), (.ref b1)])) _
    refine XS.bipush X7.here hx rfl (hb hby d3_20) ?_
    show Steps p.tables e below (T7.setTop (mkF m 22 #[.val (.int p1), .val (.int p2), .unset] [(.int (72 : Int32)), (.int (3 : Int32)), (.ref b1), (.ref b1)])) _
    refine st9 _ ?_
    show Steps p.tables e below (T9.setTop (mkF m 23 #[.val (.int p1), .val (.int p2), .unset] [(.ref b1)])) _
    refine XS.dup X9.here hx rfl (hb hby d3_23) rfl rfl ?_
    show Steps p.tables e below (T9.setTop (mkF m 24 #[.val (.int p1), .val (.int p2), .unset] [(.ref b1), (.ref b1)])) _
    refine XS.iconst X9.here hx rfl (hb hby d3_24) ?_
    show Steps p.tables e below (T9.setTop (mkF m 25 #[.val (.int p1), .val (.int p2), .unset] [(.int (4 : Int32)), (.ref b1), (.ref b1)])) _
    refine XS.sipush X9.here hx rfl (hb hby d3_25) ?_
    show Steps p.tables e below (T9.setTop (mkF m 28 #[.val (.int p1), .val (.int p2), .unset] [(.int (144 : Int32)), (.int (4 : Int32)), (.ref b1), (.ref b1)])) _
    refine st11 _ ?_
    show Steps p.tables e below (T11.setTop (mkF m 29 #[.val (.int p1), .val (.int p2), .unset] [(.ref b1)])) _
    refine XS.dup X11.here hx rfl (hb hby d3_29) rfl rfl ?_
    show Steps p.tables e below (T11.setTop (mkF m 30 #[.val (.int p1), .val (.int p2), .unset] [(.ref b1), (.ref b1)])) _
    refine XS.iconst X11.here hx rfl (hb hby d3_30) ?_
    show Steps p.tables e below (T11.setTop (mkF m 31 #[.val (.int p1), .val (.int p2), .unset] [(.int (5 : Int32)), (.ref b1), (.ref b1)])) _
    refine XS.sipush X11.here hx rfl (hb hby d3_31) ?_
    show Steps p.tables e below (T11.setTop (mkF m 34 #[.val (.int p1), .val (.int p2), .unset] [(.int (224 : Int32)), (.int (5 : Int32)), (.ref b1), (.ref b1)])) _
    refine st13 _ ?_
    show Steps p.tables e below (T13.setTop (mkF m 35 #[.val (.int p1), .val (.int p2), .unset] [(.ref b1)])) _
    refine XS.dup X13.here hx rfl (hb hby d3_35) rfl rfl ?_
    show Steps p.tables e below (T13.setTop (mkF m 36 #[.val (.int p1), .val (.int p2), .unset] [(.ref b1), (.ref b1)])) _
    refine XS.bipush X13.here hx rfl (hb hby d3_36) ?_
    show Steps p.tables e below (T13.setTop (mkF m 38 #[.val (.int p1), .val (.int p2), .unset] [(.int (6 : Int32)), (.ref b1), (.ref b1)])) _
    refine XS.bipush X13.here hx rfl (hb hby d3_38) ?_
    show Steps p.tables e below (T13.setTop (mkF m 40 #[.val (.int p1), .val (.int p2), .unset] [(.int (64 : Int32)), (.int (6 : Int32)), (.ref b1), (.ref b1)])) _
    refine st15 _ ?_
    show Steps p.tables e below (T15.setTop (mkF m 41 #[.val (.int p1), .val (.int p2), .unset] [(.ref b1)])) _
    refine XS.dup X15.here hx rfl (hb hby d3_41) rfl rfl ?_
    show Steps p.tables e below (T15.setTop (mkF m 42 #[.val (.int p1), .val (.int p2), .unset] [(.ref b1), (.ref b1)])) _
    refine XS.bipush X15.here hx rfl (hb hby d3_42) ?_
    show Steps p.tables e below (T15.setTop (mkF m 44 #[.val (.int p1), .val (.int p2), .unset] [(.int (7 : Int32)), (.ref b1), (.ref b1)])) _
    refine XS.sipush X15.here hx rfl (hb hby d3_44) ?_
    show Steps p.tables e below (T15.setTop (mkF m 47 #[.val (.int p1), .val (.int p2), .unset] [(.int (128 : Int32)), (.int (7 : Int32)), (.ref b1), (.ref b1)])) _
    refine st17 _ ?_
    show Steps p.tables e below (T17.setTop (mkF m 48 #[.val (.int p1), .val (.int p2), .unset] [(.ref b1)])) _
    refine XS.dup X17.here hx rfl (hb hby d3_48) rfl rfl ?_
    show Steps p.tables e below (T17.setTop (mkF m 49 #[.val (.int p1), .val (.int p2), .unset] [(.ref b1), (.ref b1)])) _
    refine XS.bipush X17.here hx rfl (hb hby d3_49) ?_
    show Steps p.tables e below (T17.setTop (mkF m 51 #[.val (.int p1), .val (.int p2), .unset] [(.int (8 : Int32)), (.ref b1), (.ref b1)])) _
    refine XS.iconst X17.here hx rfl (hb hby d3_51) ?_
    show Steps p.tables e below (T17.setTop (mkF m 52 #[.val (.int p1), .val (.int p2), .unset] [(.int (0 : Int32)), (.int (8 : Int32)), (.ref b1), (.ref b1)])) _
    refine st19 _ ?_
    show Steps p.tables e below (T19.setTop (mkF m 53 #[.val (.int p1), .val (.int p2), .unset] [(.ref b1)])) _
    refine XS.dup X19.here hx rfl (hb hby d3_53) rfl rfl ?_
    show Steps p.tables e below (T19.setTop (mkF m 54 #[.val (.int p1), .val (.int p2), .unset] [(.ref b1), (.ref b1)])) _
    refine XS.bipush X19.here hx rfl (hb hby d3_54) ?_
    show Steps p.tables e below (T19.setTop (mkF m 56 #[.val (.int p1), .val (.int p2), .unset] [(.int (9 : Int32)), (.ref b1), (.ref b1)])) _
    refine XS.sipush X19.here hx rfl (hb hby d3_56) ?_
    show Steps p.tables e below (T19.setTop (mkF m 59 #[.val (.int p1), .val (.int p2), .unset] [(.int (512 : Int32)), (.int (9 : Int32)), (.ref b1), (.ref b1)])) _
    refine st21 _ ?_
    show Steps p.tables e below (T21.setTop (mkF m 60 #[.val (.int p1), .val (.int p2), .unset] [(.ref b1)])) _
    refine XS.astoreN X21.here hx rfl (hb hby d3_60) rfl rfl (l' := #[.val (.int p1), .val (.int p2), .val (.ref b1)]) rfl ?_
    show Steps p.tables e below (T21.setTop (mkF m 61 #[.val (.int p1), .val (.int p2), .val (.ref b1)] [])) _
    refine XS.aloadN X21.here hx rfl (hb hby d3_61) rfl rfl ?_
    show Steps p.tables e below (T21.setTop (mkF m 62 #[.val (.int p1), .val (.int p2), .val (.ref b1)] [(.ref b1)])) _
    refine XS.iloadN X21.here hx rfl (hb hby d3_62) rfl ?_
    show Steps p.tables e below (T21.setTop (mkF m 63 #[.val (.int p1), .val (.int p2), .val (.ref b1)] [(.int p1), (.ref b1)])) _
    refine X21.iaload hx (j := p1) (v := (.int p3)) (by rw [e21]; exact Ar22.1) (State.isArrayOf_alike hZ.alike Ar22.2.1) Ar22.2.2 hin22 hat22 (g := (mkF m 63 #[.val (.int p1), .val (.int p2), .val (.ref b1)] [(.int p1), (.ref b1)])) rfl rfl (hb hby d3_63) _ ?_
    show Steps p.tables e below (T21.setTop (mkF m 64 #[.val (.int p1), .val (.int p2), .val (.ref b1)] [(.int p3)])) _
    refine XS.iloadN X21.here hx rfl (hb hby d3_64) rfl ?_
    show Steps p.tables e below (T21.setTop (mkF m 65 #[.val (.int p1), .val (.int p2), .val (.ref b1)] [(.int p2), (.int p3)])) _
    refine XS.ishr X21.here hx rfl (hb hby d3_65) rfl ?_
    show Steps p.tables e below (T21.setTop (mkF m 66 #[.val (.int p1), .val (.int p2), .val (.ref b1)] [(.int (p3 >>> (p2 &&& 31)))])) _
    refine XS.iconst X21.here hx rfl (hb hby d3_66) ?_
    show Steps p.tables e below (T21.setTop (mkF m 67 #[.val (.int p1), .val (.int p2), .val (.ref b1)] [(.int (1 : Int32)), (.int (p3 >>> (p2 &&& 31)))])) _
    refine XS.iand X21.here hx rfl (hb hby d3_67) rfl ?_
    show Steps p.tables e below (T21.setTop (mkF m 68 #[.val (.int p1), .val (.int p2), .val (.ref b1)] [(.int ((p3 >>> (p2 &&& 31)) &&& (1 : Int32)))])) _
    refine XS.ifNo X21.here hx rfl (hb hby d3_68) rfl ((if0 _ _).trans (feq P4).1) ?_
    show Steps p.tables e below (T21.setTop (mkF m 71 #[.val (.int p1), .val (.int p2), .val (.ref b1)] [])) _
    refine XS.iconst X21.here hx rfl (hb hby d3_71) ?_
    show Steps p.tables e below (T21.setTop (mkF m 72 #[.val (.int p1), .val (.int p2), .val (.ref b1)] [(.int (1 : Int32))])) _
    refine XS.goto X21.here hx rfl (pc0 := 72) (pc' := 76) rfl (hb hby d3_72) (by decide) (by decide) ?_
    show Steps p.tables e below (T21.setTop (mkF m 76 #[.val (.int p1), .val (.int p2), .val (.ref b1)] [(.int (1 : Int32))])) _
    exact retN X21 hx (t := .boolean) Bd.returns (by simp) (hb hby d3_76) hr
  · show own_QK (some (.int (1 : Int32))) n0 h0 _ T21.heap _
    rw [e21]
    exact ⟨rfl, N21, KK21⟩
set_option maxRecDepth 65536 in
set_option maxHeartbeats 40000000 in
theorem law_0 (l : Launch) (Z : State) (a0 : Array Value) (hw : ∀ d ∈ tables_1, d.before a0 Z = true) (ws : List Jvm.Cond) (p1 : Int32) (p2 : Int32) (p3 : Int32) (p4 : Int32) (w_i : Addr) (w_j : Addr) (p5 : Int32) (h0 : Heap) (n0 : Nat) (O0 : Old Z n0 h0) (P1 : ((p1 &&& (2147483647 : Int32)) % (10 : Int32)) = p3) (P2 : ((p2 &&& (2147483647 : Int32)) % (10 : Int32)) = p4) (P3 : ∀ (h0 : Heap), Old Z n0 h0 → MetFree l (⟨"com/example/key_warden/keywarden/engine/LockModeCoversPinLaw", "mode", "(I)Lcom/example/key_warden/keywarden/engine/LockMode;"⟩ : MethodName) (head1 [Jvm.Cond.code (⟨"com/example/key_warden/keywarden/engine/LockModeCoversPinLaw", "mode", "(I)Lcom/example/key_warden/keywarden/engine/LockMode;"⟩ : MethodName) method_2_code 2 (some (.object "com/example/key_warden/keywarden/engine/LockMode"))] ({ frames := 0, cells := 1, slots := 10, locals := 0 } : Room)) (fun a U => a = #[(.int p3)] ∧ Z.Warmed39 U.vm ∧ U.heap = h0) (fun _ _ _ _ _ => True) (fun _ U o U' => ∃ v L, o = .returned v ∧ own_QK (some (.ref w_i)) n0 h0 v U'.heap L ∧ FrameEnd U o U' L ({ frames := 0, cells := 1, slots := 10, locals := 0 } : Room).cells ({ frames := 0, cells := 1, slots := 10, locals := 0 } : Room).slots)) (P4 : ∀ (h0 : Heap), Old Z n0 h0 → MetFree l (⟨"com/example/key_warden/keywarden/engine/LockModeCoversPinLaw", "mode", "(I)Lcom/example/key_warden/keywarden/engine/LockMode;"⟩ : MethodName) (head1 [Jvm.Cond.code (⟨"com/example/key_warden/keywarden/engine/LockModeCoversPinLaw", "mode", "(I)Lcom/example/key_warden/keywarden/engine/LockMode;"⟩ : MethodName) method_2_code 2 (some (.object "com/example/key_warden/keywarden/engine/LockMode"))] ({ frames := 0, cells := 1, slots := 10, locals := 0 } : Room)) (fun a U => a = #[(.int p4)] ∧ Z.Warmed39 U.vm ∧ U.heap = h0) (fun _ _ _ _ _ => True) (fun _ U o U' => ∃ v L, o = .returned v ∧ own_QK (some (.ref w_j)) n0 h0 v U'.heap L ∧ FrameEnd U o U' L ({ frames := 0, cells := 1, slots := 10, locals := 0 } : Room).cells ({ frames := 0, cells := 1, slots := 10, locals := 0 } : Room).slots)) (P5 : Exa Z Z.heap w_i "com/example/key_warden/keywarden/engine/LockMode") (P6 : ∀ (h0 : Heap), Old Z n0 h0 → MetFree l (⟨"com/example/key_warden/keywarden/engine/LockMode", "covers", "(Lcom/example/key_warden/keywarden/engine/LockMode;)Z"⟩ : MethodName) (head1 [Jvm.Cond.code (⟨"com/example/key_warden/keywarden/engine/LockMode", "covers", "(Lcom/example/key_warden/keywarden/engine/LockMode;)Z"⟩ : MethodName) prog_26_method_7_code 3 (some .boolean)] ({ frames := 0, cells := 0, slots := 0, locals := 0 } : Room)) (fun a U => a = #[(.ref w_i), (.ref w_j)] ∧ Z.Warmed39 U.vm ∧ U.heap = h0) (fun _ _ _ _ _ => True) (fun _ U o U' => ∃ v L, o = .returned v ∧ own_QP (some (.int p5)) n0 h0 v U'.heap L ∧ FrameEnd U o U' L ({ frames := 0, cells := 0, slots := 0, locals := 0 } : Room).cells ({ frames := 0, cells := 0, slots := 0, locals := 0 } : Room).slots)) (P7 : ∀ (h0 : Heap), Old Z n0 h0 → MetFree l (⟨"com/example/key_warden/keywarden/engine/LockModeCoversPinLaw", "expected", "(II)Z"⟩ : MethodName) (head1 [Jvm.Cond.code (⟨"com/example/key_warden/keywarden/engine/LockModeCoversPinLaw", "expected", "(II)Z"⟩ : MethodName) method_3_code 3 (some .boolean)] ({ frames := 0, cells := 1, slots := 10, locals := 0 } : Room)) (fun a U => a = #[(.int p3), (.int p4)] ∧ Z.Warmed39 U.vm ∧ U.heap = h0) (fun _ _ _ _ _ => True) (fun _ U o U' => ∃ v L, o = .returned v ∧ own_QK (some (.int p5)) n0 h0 v U'.heap L ∧ FrameEnd U o U' L ({ frames := 0, cells := 1, slots := 10, locals := 0 } : Room).cells ({ frames := 0, cells := 1, slots := 10, locals := 0 } : Room).slots)) :
    MetFree l x (head1 (Jvm.Cond.code x code maxLocals ret :: ws) room_1) (fun a U => a = #[(.int p1), (.int p2)] ∧ Z.Warmed39 U.vm ∧ U.heap = h0) (fun _ _ _ _ _ => True) (fun _ U o U' => ∃ v L, o = .returned v ∧ own_Q1 n0 v U'.heap L ∧ FrameEnd U o U' L room_1.cells room_1.slots) := by
  refine MetFree.of_bodySF (plainFor_of_name pn_0) hisR ?_
  intro p e s m args below meth c s₁ Bd hml0 hP hK
  obtain ⟨rfl, hZ, hh⟩ := hP
  have hx := Bd.exec
  have hby := Bd.bytes
  have hml : c.maxLocals = 6 := hml0
  have hown : s.vm.findClass "com/example/key_warden/keywarden/engine/LockModeCoversPinLaw" = some m.cls := findClass_of_methodNamed Bd.named
  have hnm := (name_of_methodNamed Bd.named Bd.method).1
  have X0 : Stand p l e room_1 s m #[(.int p1), (.int p2)] below meth c s₁ [] 0 0 := Stand.of_body Bd
  have e0 : s₁.heap = h0 := by rw [← hh, Bd.state]; rfl
  have N0 := Fr.nil n0
  have pre0 : ∀ t, Steps p.tables e below (s₁.setTop (mkF m 0 #[.val (.int p1), .val (.int p2), .unset, .unset, .unset, .unset] [])) t → Steps p.tables e below (s₁.setTop (entryFrame m #[(.int p1), (.int p2)] maxLocals)) t := fun t k => castTop (ef_0_II m p1 p2) k
  obtain ⟨_, _, ⟨T1, L1, k1, n1⟩, -, X1, ⟨Lc1, hQ1, l1, y1, z1⟩, st1⟩ := Jvm.LawKit.callS X0 hx (y := (⟨"com/example/key_warden/keywarden/engine/LockModeCoversPinLaw", "mode", "(I)Lcom/example/key_warden/keywarden/engine/LockMode;"⟩ : MethodName)) hown (mvT hZ (hw _ (List.mem_of_getElem? (i := 1) rfl))) (mvT hZ (hw _ (List.mem_of_getElem? (i := 2) rfl))) (mvT hZ (hw _ (List.mem_of_getElem? (i := 3) rfl))) (mvT hZ (hw _ (List.mem_of_getElem? (i := 4) rfl))) (by decide) (backOf (W := 0) (P3 h0 O0) hZ (hw _ (List.mem_of_getElem? (i := 4) rfl)) (hw _ (List.mem_of_getElem? (i := 3) rfl)) (by decide) (by decide)) (g := (mkF m 17 #[.val (.int p1), .val (.int p2), .val (.int p3), .val (.int p4), .unset, .unset] [(.int p3)])) rfl (by rw [hml]; rfl) (argsL := [(.int p3)]) (rest := []) (lenOf pd_3 rfl) rfl (by show 2 * 0 + _ ≤ _; exact Nat.le_of_eq rfl) (hb hby at_17) (fun _ _ => ⟨rfl, e0, (by decide : 0 + 1 ≤ _), (by decide : 0 + 10 ≤ _)⟩)
  dsimp only [Pt.U, Pt.locs, Pt.cells, Pt.slots] at X1 l1 y1 z1 st1 hQ1
  subst l1 y1 z1
  obtain ⟨rfl, N1q, K1⟩ := hQ1
  have KK1 : Keep h0 T1.heap [] := (Keep.refl h0 []).trans K1 all0
  have O1 := O0.keep K1 all0
  have N1 := Fr.app N0 N1q
  obtain ⟨_, _, ⟨T2, L2, k2, n2⟩, -, X2, ⟨Lc2, hQ2, l2, y2, z2⟩, st2⟩ := Jvm.LawKit.callS X1 hx (y := (⟨"com/example/key_warden/keywarden/engine/LockModeCoversPinLaw", "mode", "(I)Lcom/example/key_warden/keywarden/engine/LockMode;"⟩ : MethodName)) hown (mvT hZ (hw _ (List.mem_of_getElem? (i := 1) rfl))) (mvT hZ (hw _ (List.mem_of_getElem? (i := 2) rfl))) (mvT hZ (hw _ (List.mem_of_getElem? (i := 3) rfl))) (mvT hZ (hw _ (List.mem_of_getElem? (i := 4) rfl))) (by decide) (backOf (W := 0) (P4 T1.heap O1) hZ (hw _ (List.mem_of_getElem? (i := 4) rfl)) (hw _ (List.mem_of_getElem? (i := 3) rfl)) (by decide) (by decide)) (g := (mkF m 23 #[.val (.int p1), .val (.int p2), .val (.int p3), .val (.int p4), .val (.ref w_i), .unset] [(.int p4)])) rfl (by rw [hml]; rfl) (argsL := [(.int p4)]) (rest := []) (lenOf pd_3 rfl) rfl (by show 2 * 0 + _ ≤ _; exact Nat.le_of_eq rfl) (hb hby at_23) (fun _ _ => ⟨rfl, rfl, (by decide : 1 + 1 ≤ _), (by decide : 10 + 10 ≤ _)⟩)
  dsimp only [Pt.U, Pt.locs, Pt.cells, Pt.slots] at X2 l2 y2 z2 st2 hQ2
  subst l2 y2 z2
  obtain ⟨rfl, N2q, K2⟩ := hQ2
  have KK2 : Keep h0 T2.heap [] := KK1.trans K2 all0
  have O2 := O1.keep K2 all0
  have N2 := Fr.app N1 N2q
  obtain ⟨cq3, kq3, q3a, q3b, q3c⟩ := isOf hZ rfl (P5.ext O2.2)
  obtain ⟨_, _, ⟨T3, L3, k3, n3⟩, -, X3, ⟨Lc3, hQ3, l3, y3, z3⟩, st3⟩ := X2.virtualBack hx (y := (⟨"com/example/key_warden/keywarden/engine/LockMode", "covers", "(Lcom/example/key_warden/keywarden/engine/LockMode;)Z"⟩ : MethodName)) (z := (⟨"com/example/key_warden/keywarden/engine/LockMode", "covers", "(Lcom/example/key_warden/keywarden/engine/LockMode;)Z"⟩ : MethodName)) hown (mvT hZ (hw _ (List.mem_of_getElem? (i := 29) rfl))) (mvT hZ (hw _ (List.mem_of_getElem? (i := 30) rfl))) (notFace_of_selects (args := #[]) (mvT hZ (hw _ (List.mem_of_getElem? (i := 32) rfl)))) (mvT hZ (hw _ (List.mem_of_getElem? (i := 32) rfl))) (mvT hZ (hw _ (List.mem_of_getElem? (i := 31) rfl))) (by decide) (backOf (W := 0) (P6 T2.heap O2) hZ (hw _ (List.mem_of_getElem? (i := 33) rfl)) (hw _ (List.mem_of_getElem? (i := 8) rfl)) (by decide) (by decide)) q3a q3c (g := (mkF m 32 #[.val (.int p1), .val (.int p2), .val (.int p3), .val (.int p4), .val (.ref w_i), .val (.ref w_j)] [(.ref w_j), (.ref w_i)])) rfl (by rw [hml]; rfl) (Steps.refl _) (argsL := [(.ref w_j)]) (rest := []) (lenOf pd_4 rfl) rfl (by show 2 * 0 + _ ≤ _; exact Nat.le_of_eq rfl) (hb hby at_32) (fun _ _ => ⟨rfl, rfl, (by decide : 2 + 0 ≤ _), (by decide : 20 + 0 ≤ _)⟩)
  dsimp only [Pt.U, Pt.locs, Pt.cells, Pt.slots] at X3 l3 y3 z3 st3 hQ3
  subst l3 y3 z3
  obtain ⟨rfl, N3q, e3⟩ := hQ3
  have N3 := Fr.app N2 N3q
  obtain ⟨_, _, ⟨T4, L4, k4, n4⟩, -, X4, ⟨Lc4, hQ4, l4, y4, z4⟩, st4⟩ := Jvm.LawKit.callS X3 hx (y := (⟨"com/example/key_warden/keywarden/engine/LockModeCoversPinLaw", "expected", "(II)Z"⟩ : MethodName)) hown (mvT hZ (hw _ (List.mem_of_getElem? (i := 40) rfl))) (mvT hZ (hw _ (List.mem_of_getElem? (i := 41) rfl))) (mvT hZ (hw _ (List.mem_of_getElem? (i := 3) rfl))) (mvT hZ (hw _ (List.mem_of_getElem? (i := 42) rfl))) (by decide) (backOf (W := 1) (P7 T2.heap O2) hZ (hw _ (List.mem_of_getElem? (i := 42) rfl)) (hw _ (List.mem_of_getElem? (i := 3) rfl)) (by decide) (by decide)) (g := (mkF m 37 #[.val (.int p1), .val (.int p2), .val (.int p3), .val (.int p4), .val (.ref w_i), .val (.ref w_j)] [(.int p4), (.int p3), (.int p5)])) rfl (by rw [hml]; rfl) (argsL := [(.int p3), (.int p4)]) (rest := [(.int p5)]) (lenOf pd_5 rfl) rfl (by show 2 * 0 + _ ≤ _; exact Nat.le_of_eq rfl) (hb hby at_37) (fun _ _ => ⟨rfl, e3, (by decide : 2 + 1 ≤ _), (by decide : 20 + 10 ≤ _)⟩)
  dsimp only [Pt.U, Pt.locs, Pt.cells, Pt.slots] at X4 l4 y4 z4 st4 hQ4
  subst l4 y4 z4
  obtain ⟨rfl, N4q, K4⟩ := hQ4
  have KK4 : Keep h0 T4.heap [] := KK2.trans K4 all0
  have O4 := O2.keep K4 all0
  have N4 := Fr.app N3 N4q
  obtain ⟨fs, hr, hrun, hended, hW, hsame⟩ := X4.leave (v := some (.int (1 : Int32))) (fun h => by rw [Bd.returns] at h; cases h)
  refine ⟨_, _, pre0 _ ?_, hrun, hended, _, _, rfl, ?_, ⟨_, rfl⟩, hW, hsame.mono (by decide) (by decide)⟩
  · show Steps p.tables e below (s₁.setTop (mkF m 0 #[.val (.int p1), .val (.int p2), .unset, .unset, .unset, .unset] [])) _
    refine XS.iloadN X0.here hx rfl (hb hby at_0) rfl ?_
    show Steps p.tables e below (s₁.setTop (mkF m 1 #[.val (.int p1), .val (.int p2), .unset, .unset, .unset, .unset] [(.int p1)])) _
    refine X0.ldcInt hx hown (mvT hZ (hw _ (List.mem_of_getElem? (i := 0) rfl))) (g := (mkF m 1 #[.val (.int p1), .val (.int p2), .unset, .unset, .unset, .unset] [(.int p1)])) rfl (hb hby at_1) _ ?_
    show Steps p.tables e below (s₁.setTop (mkF m 3 #[.val (.int p1), .val (.int p2), .unset, .unset, .unset, .unset] [(.int (2147483647 : Int32)), (.int p1)])) _
    refine XS.iand X0.here hx rfl (hb hby at_3) rfl ?_
    show Steps p.tables e below (s₁.setTop (mkF m 4 #[.val (.int p1), .val (.int p2), .unset, .unset, .unset, .unset] [(.int (p1 &&& (2147483647 : Int32)))])) _
    refine XS.bipush X0.here hx rfl (hb hby at_4) ?_
    show Steps p.tables e below (s₁.setTop (mkF m 6 #[.val (.int p1), .val (.int p2), .unset, .unset, .unset, .unset] [(.int (10 : Int32)), (.int (p1 &&& (2147483647 : Int32)))])) _
    refine iremM (g := (mkF m 6 #[.val (.int p1), .val (.int p2), .unset, .unset, .unset, .unset] [(.int (10 : Int32)), (.int (p1 &&& (2147483647 : Int32)))])) X0 hx rfl (hb hby at_6) rfl (by decide) ?_
    show Steps p.tables e below (s₁.setTop (mkF m 7 #[.val (.int p1), .val (.int p2), .unset, .unset, .unset, .unset] [(.int ((p1 &&& (2147483647 : Int32)) % (10 : Int32)))])) _
    rw [P1]
    show Steps p.tables e below (s₁.setTop (mkF m 7 #[.val (.int p1), .val (.int p2), .unset, .unset, .unset, .unset] [(.int p3)])) _
    refine XS.istoreN X0.here hx rfl (hb hby at_7) rfl (l' := #[.val (.int p1), .val (.int p2), .val (.int p3), .unset, .unset, .unset]) rfl ?_
    show Steps p.tables e below (s₁.setTop (mkF m 8 #[.val (.int p1), .val (.int p2), .val (.int p3), .unset, .unset, .unset] [])) _
    refine XS.iloadN X0.here hx rfl (hb hby at_8) rfl ?_
    show Steps p.tables e below (s₁.setTop (mkF m 9 #[.val (.int p1), .val (.int p2), .val (.int p3), .unset, .unset, .unset] [(.int p2)])) _
    refine X0.ldcInt hx hown (mvT hZ (hw _ (List.mem_of_getElem? (i := 0) rfl))) (g := (mkF m 9 #[.val (.int p1), .val (.int p2), .val (.int p3), .unset, .unset, .unset] [(.int p2)])) rfl (hb hby at_9) _ ?_
    show Steps p.tables e below (s₁.setTop (mkF m 11 #[.val (.int p1), .val (.int p2), .val (.int p3), .unset, .unset, .unset] [(.int (2147483647 : Int32)), (.int p2)])) _
    refine XS.iand X0.here hx rfl (hb hby at_11) rfl ?_
    show Steps p.tables e below (s₁.setTop (mkF m 12 #[.val (.int p1), .val (.int p2), .val (.int p3), .unset, .unset, .unset] [(.int (p2 &&& (2147483647 : Int32)))])) _
    refine XS.bipush X0.here hx rfl (hb hby at_12) ?_
    show Steps p.tables e below (s₁.setTop (mkF m 14 #[.val (.int p1), .val (.int p2), .val (.int p3), .unset, .unset, .unset] [(.int (10 : Int32)), (.int (p2 &&& (2147483647 : Int32)))])) _
    refine iremM (g := (mkF m 14 #[.val (.int p1), .val (.int p2), .val (.int p3), .unset, .unset, .unset] [(.int (10 : Int32)), (.int (p2 &&& (2147483647 : Int32)))])) X0 hx rfl (hb hby at_14) rfl (by decide) ?_
    show Steps p.tables e below (s₁.setTop (mkF m 15 #[.val (.int p1), .val (.int p2), .val (.int p3), .unset, .unset, .unset] [(.int ((p2 &&& (2147483647 : Int32)) % (10 : Int32)))])) _
    rw [P2]
    show Steps p.tables e below (s₁.setTop (mkF m 15 #[.val (.int p1), .val (.int p2), .val (.int p3), .unset, .unset, .unset] [(.int p4)])) _
    refine XS.istoreN X0.here hx rfl (hb hby at_15) rfl (l' := #[.val (.int p1), .val (.int p2), .val (.int p3), .val (.int p4), .unset, .unset]) rfl ?_
    show Steps p.tables e below (s₁.setTop (mkF m 16 #[.val (.int p1), .val (.int p2), .val (.int p3), .val (.int p4), .unset, .unset] [])) _
    refine XS.iloadN X0.here hx rfl (hb hby at_16) rfl ?_
    show Steps p.tables e below (s₁.setTop (mkF m 17 #[.val (.int p1), .val (.int p2), .val (.int p3), .val (.int p4), .unset, .unset] [(.int p3)])) _
    refine st1 _ ?_
    show Steps p.tables e below (T1.setTop (mkF m 20 #[.val (.int p1), .val (.int p2), .val (.int p3), .val (.int p4), .unset, .unset] [(.ref w_i)])) _
    refine XS.astore X1.here hx rfl (hb hby at_20) rfl rfl (l' := #[.val (.int p1), .val (.int p2), .val (.int p3), .val (.int p4), .val (.ref w_i), .unset]) rfl ?_
    show Steps p.tables e below (T1.setTop (mkF m 22 #[.val (.int p1), .val (.int p2), .val (.int p3), .val (.int p4), .val (.ref w_i), .unset] [])) _
    refine XS.iloadN X1.here hx rfl (hb hby at_22) rfl ?_
    show Steps p.tables e below (T1.setTop (mkF m 23 #[.val (.int p1), .val (.int p2), .val (.int p3), .val (.int p4), .val (.ref w_i), .unset] [(.int p4)])) _
    refine st2 _ ?_
    show Steps p.tables e below (T2.setTop (mkF m 26 #[.val (.int p1), .val (.int p2), .val (.int p3), .val (.int p4), .val (.ref w_i), .unset] [(.ref w_j)])) _
    refine XS.astore X2.here hx rfl (hb hby at_26) rfl rfl (l' := #[.val (.int p1), .val (.int p2), .val (.int p3), .val (.int p4), .val (.ref w_i), .val (.ref w_j)]) rfl ?_
    show Steps p.tables e below (T2.setTop (mkF m 28 #[.val (.int p1), .val (.int p2), .val (.int p3), .val (.int p4), .val (.ref w_i), .val (.ref w_j)] [])) _
    refine XS.aload X2.here hx rfl (hb hby at_28) rfl rfl ?_
    show Steps p.tables e below (T2.setTop (mkF m 30 #[.val (.int p1), .val (.int p2), .val (.int p3), .val (.int p4), .val (.ref w_i), .val (.ref w_j)] [(.ref w_i)])) _
    refine XS.aload X2.here hx rfl (hb hby at_30) rfl rfl ?_
    show Steps p.tables e below (T2.setTop (mkF m 32 #[.val (.int p1), .val (.int p2), .val (.int p3), .val (.int p4), .val (.ref w_i), .val (.ref w_j)] [(.ref w_j), (.ref w_i)])) _
    refine st3.trans ?_
    show Steps p.tables e below (T3.setTop (mkF m 35 #[.val (.int p1), .val (.int p2), .val (.int p3), .val (.int p4), .val (.ref w_i), .val (.ref w_j)] [(.int p5)])) _
    refine XS.iloadN X3.here hx rfl (hb hby at_35) rfl ?_
    show Steps p.tables e below (T3.setTop (mkF m 36 #[.val (.int p1), .val (.int p2), .val (.int p3), .val (.int p4), .val (.ref w_i), .val (.ref w_j)] [(.int p3), (.int p5)])) _
    refine XS.iloadN X3.here hx rfl (hb hby at_36) rfl ?_
    show Steps p.tables e below (T3.setTop (mkF m 37 #[.val (.int p1), .val (.int p2), .val (.int p3), .val (.int p4), .val (.ref w_i), .val (.ref w_j)] [(.int p4), (.int p3), (.int p5)])) _
    refine st4 _ ?_
    show Steps p.tables e below (T4.setTop (mkF m 40 #[.val (.int p1), .val (.int p2), .val (.int p3), .val (.int p4), .val (.ref w_i), .val (.ref w_j)] [(.int p5), (.int p5)])) _
    refine XS.icmpNo X4.here hx rfl (hb hby at_40) rfl (teq rfl).2 ?_
    show Steps p.tables e below (T4.setTop (mkF m 43 #[.val (.int p1), .val (.int p2), .val (.int p3), .val (.int p4), .val (.ref w_i), .val (.ref w_j)] [])) _
    refine XS.iconst X4.here hx rfl (hb hby at_43) ?_
    show Steps p.tables e below (T4.setTop (mkF m 44 #[.val (.int p1), .val (.int p2), .val (.int p3), .val (.int p4), .val (.ref w_i), .val (.ref w_j)] [(.int (1 : Int32))])) _
    refine XS.goto X4.here hx rfl (pc0 := 44) (pc' := 48) rfl (hb hby at_44) (by decide) (by decide) ?_
    show Steps p.tables e below (T4.setTop (mkF m 48 #[.val (.int p1), .val (.int p2), .val (.int p3), .val (.int p4), .val (.ref w_i), .val (.ref w_j)] [(.int (1 : Int32))])) _
    exact retN X4 hx (t := .boolean) Bd.returns (by simp) (hb hby at_48) hr
  · show own_Q1 n0 _ T4.heap _
    exact ⟨rfl, N4⟩
set_option maxRecDepth 65536 in
set_option maxHeartbeats 40000000 in
theorem rm2_0 (l : Launch) (Z : State) (a0 : Array Value) (hw : ∀ d ∈ tables_1, d.before a0 Z = true) (r1 : Addr) (h0 : Heap) (n0 : Nat) (O0 : Old Z n0 h0) (P1 : Fld Z h0 r1 "com/example/key_warden/keywarden/engine/LockMode" "insertIntention" "Z" (.int (0 : Int32))) :
    MetFree l (⟨"com/example/key_warden/keywarden/engine/LockMode", "covers", "(Lcom/example/key_warden/keywarden/engine/LockMode;)Z"⟩ : MethodName) (head1 [Jvm.Cond.code (⟨"com/example/key_warden/keywarden/engine/LockMode", "covers", "(Lcom/example/key_warden/keywarden/engine/LockMode;)Z"⟩ : MethodName) prog_26_method_7_code 3 (some .boolean)] ({ frames := 0, cells := 0, slots := 0, locals := 0 } : Room)) (fun a U => a = #[(.ref r1), (.ref r1)] ∧ Z.Warmed39 U.vm ∧ U.heap = h0) (fun _ _ _ _ _ => True) (fun _ U o U' => ∃ v L, o = .returned v ∧ own_QP (some (.int (1 : Int32))) n0 h0 v U'.heap L ∧ FrameEnd U o U' L ({ frames := 0, cells := 0, slots := 0, locals := 0 } : Room).cells ({ frames := 0, cells := 0, slots := 0, locals := 0 } : Room).slots) := by
  refine MetFree.of_bodySF (plainFor_of_name pn_7) hisR ?_
  intro p e s m args below meth c s₁ Bd hml0 hP hK
  obtain ⟨rfl, hZ, hh⟩ := hP
  have hx := Bd.exec
  have hby := Bd.bytes
  have hml : c.maxLocals = 3 := hml0
  have hown : s.vm.findClass "com/example/key_warden/keywarden/engine/LockMode" = some m.cls := findClass_of_methodNamed Bd.named
  have hnm := (name_of_methodNamed Bd.named Bd.method).1
  have X0 : Stand p l e ({ frames := 0, cells := 0, slots := 0, locals := 0 } : Room) s m #[(.ref r1), (.ref r1)] below meth c s₁ [] 0 0 := Stand.of_body Bd
  have e0 : s₁.heap = h0 := by rw [← hh, Bd.state]; rfl
  have N0 := Fr.nil n0
  have pre0 : ∀ t, Steps p.tables e below (s₁.setTop (mkF m 0 #[.val (.ref r1), .val (.ref r1), .unset] [])) t → Steps p.tables e below (s₁.setTop (entryFrame m #[(.ref r1), (.ref r1)] 3)) t := fun t k => castTop (ef_2_RR m r1 r1) k
  obtain ⟨T1, X1, e1, st1⟩ := getF X0 hx hZ hown (host := "") (Or.inl (hw _ (List.mem_of_getElem? (i := 34) rfl))) Via.refl e0 P1 (g := (mkF m 1 #[.val (.ref r1), .val (.ref r1), .unset] [(.ref r1)])) rfl rfl (hb hby d2_1)
  obtain ⟨T2, X2, e2, st2⟩ := getF X1 hx hZ hown (host := "") (Or.inl (hw _ (List.mem_of_getElem? (i := 34) rfl))) Via.refl e1 P1 (g := (mkF m 8 #[.val (.ref r1), .val (.ref r1), .unset] [(.ref r1)])) rfl rfl (hb hby d2_8)
  obtain ⟨fs, hr, hrun, hended, hW, hsame⟩ := X2.leave (v := (some (.int (1 : Int32)))) (fun h => by rw [Bd.returns] at h; cases h)
  refine ⟨_, _, pre0 _ ?_, hrun, hended, _, _, rfl, ?_, ⟨_, rfl⟩, hW, hsame.mono (by decide) (by decide)⟩
  · show Steps p.tables e below (s₁.setTop (mkF m 0 #[.val (.ref r1), .val (.ref r1), .unset] [])) _
    refine XS.aloadN X0.here hx rfl (hb hby d2_0) rfl rfl ?_
    show Steps p.tables e below (s₁.setTop (mkF m 1 #[.val (.ref r1), .val (.ref r1), .unset] [(.ref r1)])) _
    refine st1 _ ?_
    show Steps p.tables e below (T1.setTop (mkF m 4 #[.val (.ref r1), .val (.ref r1), .unset] [(.int (0 : Int32))])) _
    refine XS.ifNo X1.here hx rfl (hb hby d2_4) rfl (by decide) ?_
    show Steps p.tables e below (T1.setTop (mkF m 7 #[.val (.ref r1), .val (.ref r1), .unset] [])) _
    refine XS.aloadN X1.here hx rfl (hb hby d2_7) rfl rfl ?_
    show Steps p.tables e below (T1.setTop (mkF m 8 #[.val (.ref r1), .val (.ref r1), .unset] [(.ref r1)])) _
    refine st2 _ ?_
    show Steps p.tables e below (T2.setTop (mkF m 11 #[.val (.ref r1), .val (.ref r1), .unset] [(.int (0 : Int32))])) _
    refine XS.ifYes X2.here hx rfl (pc0 := 11) (pc' := 19) rfl (hb hby d2_11) rfl (by decide) (by decide) (by decide) ?_
    show Steps p.tables e below (T2.setTop (mkF m 19 #[.val (.ref r1), .val (.ref r1), .unset] [])) _
    refine XS.aloadN X2.here hx rfl (hb hby d2_19) rfl rfl ?_
    show Steps p.tables e below (T2.setTop (mkF m 20 #[.val (.ref r1), .val (.ref r1), .unset] [(.ref r1)])) _
    refine XS.aloadN X2.here hx rfl (hb hby d2_20) rfl rfl ?_
    show Steps p.tables e below (T2.setTop (mkF m 21 #[.val (.ref r1), .val (.ref r1), .unset] [(.ref r1), (.ref r1)])) _
    refine Jvm.RoadKit.acmp (g := (mkF m 21 #[.val (.ref r1), .val (.ref r1), .unset] [(.ref r1), (.ref r1)])) X2 hx rfl rfl rfl (pc0 := 21) (pc' := 24) (same := true) rfl (hb hby d2_21) rfl (decide_eq_true rfl) (by decide) (by decide) ?_
    show Steps p.tables e below (T2.setTop (mkF m 24 #[.val (.ref r1), .val (.ref r1), .unset] [])) _
    refine XS.iconst X2.here hx rfl (hb hby d2_24) ?_
    show Steps p.tables e below (T2.setTop (mkF m 25 #[.val (.ref r1), .val (.ref r1), .unset] [(.int (1 : Int32))])) _
    refine XS.istoreN X2.here hx rfl (hb hby d2_25) rfl (l' := #[.val (.ref r1), .val (.ref r1), .val (.int (1 : Int32))]) rfl ?_
    show Steps p.tables e below (T2.setTop (mkF m 26 #[.val (.ref r1), .val (.ref r1), .val (.int (1 : Int32))] [])) _
    refine XS.goto X2.here hx rfl (pc0 := 26) (pc' := 147) rfl (hb hby d2_26) (by decide) (by decide) ?_
    show Steps p.tables e below (T2.setTop (mkF m 147 #[.val (.ref r1), .val (.ref r1), .val (.int (1 : Int32))] [])) _
    refine XS.iloadN X2.here hx rfl (hb hby d2_147) rfl ?_
    show Steps p.tables e below (T2.setTop (mkF m 148 #[.val (.ref r1), .val (.ref r1), .val (.int (1 : Int32))] [(.int (1 : Int32))])) _
    exact retN X2 hx (t := .boolean) Bd.returns (by simp) (hb hby d2_148) hr
  · show own_QP (some (.int (1 : Int32))) n0 h0 _ T2.heap _
    rw [e2]
    exact ⟨rfl, N0, rfl⟩
set_option maxRecDepth 65536 in
set_option maxHeartbeats 40000000 in
theorem rm2_1 (l : Launch) (Z : State) (a0 : Array Value) (hw : ∀ d ∈ tables_1, d.before a0 Z = true) (r1 : Addr) (r2 : Addr) (h0 : Heap) (n0 : Nat) (O0 : Old Z n0 h0) (P1 : Fld Z h0 r1 "com/example/key_warden/keywarden/engine/LockMode" "insertIntention" "Z" (.int (0 : Int32))) (P2 : Fld Z h0 r2 "com/example/key_warden/keywarden/engine/LockMode" "insertIntention" "Z" (.int (0 : Int32))) (P3 : r1 ≠ r2) (P4 : Fld Z h0 r1 "com/example/key_warden/keywarden/engine/LockMode" "keyLock" "Z" (.int (0 : Int32))) (P5 : Fld Z h0 r2 "com/example/key_warden/keywarden/engine/LockMode" "keyLock" "Z" (.int (0 : Int32))) (P6 : Fld Z h0 r1 "com/example/key_warden/keywarden/engine/LockMode" "intention" "Z" (.int (1 : Int32))) (P7 : Fld Z h0 r2 "com/example/key_warden/keywarden/engine/LockMode" "intention" "Z" (.int (1 : Int32))) (P8 : Fld Z h0 r1 "com/example/key_warden/keywarden/engine/LockMode" "shared" "Z" (.int (0 : Int32))) :
    MetFree l (⟨"com/example/key_warden/keywarden/engine/LockMode", "covers", "(Lcom/example/key_warden/keywarden/engine/LockMode;)Z"⟩ : MethodName) (head1 [Jvm.Cond.code (⟨"com/example/key_warden/keywarden/engine/LockMode", "covers", "(Lcom/example/key_warden/keywarden/engine/LockMode;)Z"⟩ : MethodName) prog_26_method_7_code 3 (some .boolean)] ({ frames := 0, cells := 0, slots := 0, locals := 0 } : Room)) (fun a U => a = #[(.ref r1), (.ref r2)] ∧ Z.Warmed39 U.vm ∧ U.heap = h0) (fun _ _ _ _ _ => True) (fun _ U o U' => ∃ v L, o = .returned v ∧ own_QP (some (.int (1 : Int32))) n0 h0 v U'.heap L ∧ FrameEnd U o U' L ({ frames := 0, cells := 0, slots := 0, locals := 0 } : Room).cells ({ frames := 0, cells := 0, slots := 0, locals := 0 } : Room).slots) := by
  refine MetFree.of_bodySF (plainFor_of_name pn_7) hisR ?_
  intro p e s m args below meth c s₁ Bd hml0 hP hK
  obtain ⟨rfl, hZ, hh⟩ := hP
  have hx := Bd.exec
  have hby := Bd.bytes
  have hml : c.maxLocals = 3 := hml0
  have hown : s.vm.findClass "com/example/key_warden/keywarden/engine/LockMode" = some m.cls := findClass_of_methodNamed Bd.named
  have hnm := (name_of_methodNamed Bd.named Bd.method).1
  have X0 : Stand p l e ({ frames := 0, cells := 0, slots := 0, locals := 0 } : Room) s m #[(.ref r1), (.ref r2)] below meth c s₁ [] 0 0 := Stand.of_body Bd
  have e0 : s₁.heap = h0 := by rw [← hh, Bd.state]; rfl
  have N0 := Fr.nil n0
  have pre0 : ∀ t, Steps p.tables e below (s₁.setTop (mkF m 0 #[.val (.ref r1), .val (.ref r2), .unset] [])) t → Steps p.tables e below (s₁.setTop (entryFrame m #[(.ref r1), (.ref r2)] 3)) t := fun t k => castTop (ef_2_RR m r1 r2) k
  obtain ⟨T1, X1, e1, st1⟩ := getF X0 hx hZ hown (host := "") (Or.inl (hw _ (List.mem_of_getElem? (i := 34) rfl))) Via.refl e0 P1 (g := (mkF m 1 #[.val (.ref r1), .val (.ref r2), .unset] [(.ref r1)])) rfl rfl (hb hby d2_1)
  obtain ⟨T2, X2, e2, st2⟩ := getF X1 hx hZ hown (host := "") (Or.inl (hw _ (List.mem_of_getElem? (i := 34) rfl))) Via.refl e1 P2 (g := (mkF m 8 #[.val (.ref r1), .val (.ref r2), .unset] [(.ref r2)])) rfl rfl (hb hby d2_8)
  have nz3 : r1 ≠ r2 := P3
  obtain ⟨T4, X4, e4, st4⟩ := getF X2 hx hZ hown (host := "") (Or.inl (hw _ (List.mem_of_getElem? (i := 36) rfl))) Via.refl e2 P4 (g := (mkF m 30 #[.val (.ref r1), .val (.ref r2), .unset] [(.ref r1)])) rfl rfl (hb hby d2_30)
  obtain ⟨T5, X5, e5, st5⟩ := getF X4 hx hZ hown (host := "") (Or.inl (hw _ (List.mem_of_getElem? (i := 36) rfl))) Via.refl e4 P5 (g := (mkF m 37 #[.val (.ref r1), .val (.ref r2), .unset] [(.ref r2)])) rfl rfl (hb hby d2_37)
  obtain ⟨T6, X6, e6, st6⟩ := getF X5 hx hZ hown (host := "") (Or.inl (hw _ (List.mem_of_getElem? (i := 38) rfl))) Via.refl e5 P6 (g := (mkF m 49 #[.val (.ref r1), .val (.ref r2), .unset] [(.ref r1)])) rfl rfl (hb hby d2_49)
  obtain ⟨T7, X7, e7, st7⟩ := getF X6 hx hZ hown (host := "") (Or.inl (hw _ (List.mem_of_getElem? (i := 38) rfl))) Via.refl e6 P6 (g := (mkF m 63 #[.val (.ref r1), .val (.ref r2), .unset] [(.ref r1)])) rfl rfl (hb hby d2_63)
  obtain ⟨T8, X8, e8, st8⟩ := getF X7 hx hZ hown (host := "") (Or.inl (hw _ (List.mem_of_getElem? (i := 38) rfl))) Via.refl e7 P7 (g := (mkF m 70 #[.val (.ref r1), .val (.ref r2), .unset] [(.ref r2)])) rfl rfl (hb hby d2_70)
  obtain ⟨T9, X9, e9, st9⟩ := getF X8 hx hZ hown (host := "") (Or.inl (hw _ (List.mem_of_getElem? (i := 44) rfl))) Via.refl e8 P8 (g := (mkF m 77 #[.val (.ref r1), .val (.ref r2), .unset] [(.ref r1)])) rfl rfl (hb hby d2_77)
  obtain ⟨fs, hr, hrun, hended, hW, hsame⟩ := X9.leave (v := (some (.int (1 : Int32)))) (fun h => by rw [Bd.returns] at h; cases h)
  refine ⟨_, _, pre0 _ ?_, hrun, hended, _, _, rfl, ?_, ⟨_, rfl⟩, hW, hsame.mono (by decide) (by decide)⟩
  · show Steps p.tables e below (s₁.setTop (mkF m 0 #[.val (.ref r1), .val (.ref r2), .unset] [])) _
    refine XS.aloadN X0.here hx rfl (hb hby d2_0) rfl rfl ?_
    show Steps p.tables e below (s₁.setTop (mkF m 1 #[.val (.ref r1), .val (.ref r2), .unset] [(.ref r1)])) _
    refine st1 _ ?_
    show Steps p.tables e below (T1.setTop (mkF m 4 #[.val (.ref r1), .val (.ref r2), .unset] [(.int (0 : Int32))])) _
    refine XS.ifNo X1.here hx rfl (hb hby d2_4) rfl (by decide) ?_
    show Steps p.tables e below (T1.setTop (mkF m 7 #[.val (.ref r1), .val (.ref r2), .unset] [])) _
    refine XS.aloadN X1.here hx rfl (hb hby d2_7) rfl rfl ?_
    show Steps p.tables e below (T1.setTop (mkF m 8 #[.val (.ref r1), .val (.ref r2), .unset] [(.ref r2)])) _
    refine st2 _ ?_
    show Steps p.tables e below (T2.setTop (mkF m 11 #[.val (.ref r1), .val (.ref r2), .unset] [(.int (0 : Int32))])) _
    refine XS.ifYes X2.here hx rfl (pc0 := 11) (pc' := 19) rfl (hb hby d2_11) rfl (by decide) (by decide) (by decide) ?_
    show Steps p.tables e below (T2.setTop (mkF m 19 #[.val (.ref r1), .val (.ref r2), .unset] [])) _
    refine XS.aloadN X2.here hx rfl (hb hby d2_19) rfl rfl ?_
    show Steps p.tables e below (T2.setTop (mkF m 20 #[.val (.ref r1), .val (.ref r2), .unset] [(.ref r1)])) _
    refine XS.aloadN X2.here hx rfl (hb hby d2_20) rfl rfl ?_
    show Steps p.tables e below (T2.setTop (mkF m 21 #[.val (.ref r1), .val (.ref r2), .unset] [(.ref r2), (.ref r1)])) _
    refine Jvm.RoadKit.acmp (g := (mkF m 21 #[.val (.ref r1), .val (.ref r2), .unset] [(.ref r2), (.ref r1)])) X2 hx rfl rfl rfl (pc0 := 21) (pc' := 29) (same := false) rfl (hb hby d2_21) rfl (decide_eq_false fun q => nz3 (Value.ref.inj q)) (by decide) (by decide) ?_
    show Steps p.tables e below (T2.setTop (mkF m 29 #[.val (.ref r1), .val (.ref r2), .unset] [])) _
    refine XS.aloadN X2.here hx rfl (hb hby d2_29) rfl rfl ?_
    show Steps p.tables e below (T2.setTop (mkF m 30 #[.val (.ref r1), .val (.ref r2), .unset] [(.ref r1)])) _
    refine st4 _ ?_
    show Steps p.tables e below (T4.setTop (mkF m 33 #[.val (.ref r1), .val (.ref r2), .unset] [(.int (0 : Int32))])) _
    refine XS.ifNo X4.here hx rfl (hb hby d2_33) rfl (by decide) ?_
    show Steps p.tables e below (T4.setTop (mkF m 36 #[.val (.ref r1), .val (.ref r2), .unset] [])) _
    refine XS.aloadN X4.here hx rfl (hb hby d2_36) rfl rfl ?_
    show Steps p.tables e below (T4.setTop (mkF m 37 #[.val (.ref r1), .val (.ref r2), .unset] [(.ref r2)])) _
    refine st5 _ ?_
    show Steps p.tables e below (T5.setTop (mkF m 40 #[.val (.ref r1), .val (.ref r2), .unset] [(.int (0 : Int32))])) _
    refine XS.ifYes X5.here hx rfl (pc0 := 40) (pc' := 48) rfl (hb hby d2_40) rfl (by decide) (by decide) (by decide) ?_
    show Steps p.tables e below (T5.setTop (mkF m 48 #[.val (.ref r1), .val (.ref r2), .unset] [])) _
    refine XS.aloadN X5.here hx rfl (hb hby d2_48) rfl rfl ?_
    show Steps p.tables e below (T5.setTop (mkF m 49 #[.val (.ref r1), .val (.ref r2), .unset] [(.ref r1)])) _
    refine st6 _ ?_
    show Steps p.tables e below (T6.setTop (mkF m 52 #[.val (.ref r1), .val (.ref r2), .unset] [(.int (1 : Int32))])) _
    refine XS.ifYes X6.here hx rfl (pc0 := 52) (pc' := 62) rfl (hb hby d2_52) rfl (by decide) (by decide) (by decide) ?_
    show Steps p.tables e below (T6.setTop (mkF m 62 #[.val (.ref r1), .val (.ref r2), .unset] [])) _
    refine XS.aloadN X6.here hx rfl (hb hby d2_62) rfl rfl ?_
    show Steps p.tables e below (T6.setTop (mkF m 63 #[.val (.ref r1), .val (.ref r2), .unset] [(.ref r1)])) _
    refine st7 _ ?_
    show Steps p.tables e below (T7.setTop (mkF m 66 #[.val (.ref r1), .val (.ref r2), .unset] [(.int (1 : Int32))])) _
    refine XS.ifNo X7.here hx rfl (hb hby d2_66) rfl (by decide) ?_
    show Steps p.tables e below (T7.setTop (mkF m 69 #[.val (.ref r1), .val (.ref r2), .unset] [])) _
    refine XS.aloadN X7.here hx rfl (hb hby d2_69) rfl rfl ?_
    show Steps p.tables e below (T7.setTop (mkF m 70 #[.val (.ref r1), .val (.ref r2), .unset] [(.ref r2)])) _
    refine st8 _ ?_
    show Steps p.tables e below (T8.setTop (mkF m 73 #[.val (.ref r1), .val (.ref r2), .unset] [(.int (1 : Int32))])) _
    refine XS.ifNo X8.here hx rfl (hb hby d2_73) rfl (by decide) ?_
    show Steps p.tables e below (T8.setTop (mkF m 76 #[.val (.ref r1), .val (.ref r2), .unset] [])) _
    refine XS.aloadN X8.here hx rfl (hb hby d2_76) rfl rfl ?_
    show Steps p.tables e below (T8.setTop (mkF m 77 #[.val (.ref r1), .val (.ref r2), .unset] [(.ref r1)])) _
    refine st9 _ ?_
    show Steps p.tables e below (T9.setTop (mkF m 80 #[.val (.ref r1), .val (.ref r2), .unset] [(.int (0 : Int32))])) _
    refine XS.ifYes X9.here hx rfl (pc0 := 80) (pc' := 90) rfl (hb hby d2_80) rfl (by decide) (by decide) (by decide) ?_
    show Steps p.tables e below (T9.setTop (mkF m 90 #[.val (.ref r1), .val (.ref r2), .unset] [])) _
    refine XS.iconst X9.here hx rfl (hb hby d2_90) ?_
    show Steps p.tables e below (T9.setTop (mkF m 91 #[.val (.ref r1), .val (.ref r2), .unset] [(.int (1 : Int32))])) _
    refine XS.goto X9.here hx rfl (pc0 := 91) (pc' := 95) rfl (hb hby d2_91) (by decide) (by decide) ?_
    show Steps p.tables e below (T9.setTop (mkF m 95 #[.val (.ref r1), .val (.ref r2), .unset] [(.int (1 : Int32))])) _
    refine XS.istoreN X9.here hx rfl (hb hby d2_95) rfl (l' := #[.val (.ref r1), .val (.ref r2), .val (.int (1 : Int32))]) rfl ?_
    show Steps p.tables e below (T9.setTop (mkF m 96 #[.val (.ref r1), .val (.ref r2), .val (.int (1 : Int32))] [])) _
    refine XS.goto X9.here hx rfl (pc0 := 96) (pc' := 147) rfl (hb hby d2_96) (by decide) (by decide) ?_
    show Steps p.tables e below (T9.setTop (mkF m 147 #[.val (.ref r1), .val (.ref r2), .val (.int (1 : Int32))] [])) _
    refine XS.iloadN X9.here hx rfl (hb hby d2_147) rfl ?_
    show Steps p.tables e below (T9.setTop (mkF m 148 #[.val (.ref r1), .val (.ref r2), .val (.int (1 : Int32))] [(.int (1 : Int32))])) _
    exact retN X9 hx (t := .boolean) Bd.returns (by simp) (hb hby d2_148) hr
  · show own_QP (some (.int (1 : Int32))) n0 h0 _ T9.heap _
    rw [e9]
    exact ⟨rfl, N0, rfl⟩
set_option maxRecDepth 65536 in
set_option maxHeartbeats 40000000 in
theorem rm2_2 (l : Launch) (Z : State) (a0 : Array Value) (hw : ∀ d ∈ tables_1, d.before a0 Z = true) (r1 : Addr) (r2 : Addr) (h0 : Heap) (n0 : Nat) (O0 : Old Z n0 h0) (P1 : Fld Z h0 r1 "com/example/key_warden/keywarden/engine/LockMode" "insertIntention" "Z" (.int (0 : Int32))) (P2 : Fld Z h0 r2 "com/example/key_warden/keywarden/engine/LockMode" "insertIntention" "Z" (.int (0 : Int32))) (P3 : r1 ≠ r2) (P4 : Fld Z h0 r1 "com/example/key_warden/keywarden/engine/LockMode" "keyLock" "Z" (.int (0 : Int32))) (P5 : Fld Z h0 r2 "com/example/key_warden/keywarden/engine/LockMode" "keyLock" "Z" (.int (0 : Int32))) (P6 : Fld Z h0 r1 "com/example/key_warden/keywarden/engine/LockMode" "intention" "Z" (.int (1 : Int32))) (P7 : Fld Z h0 r2 "com/example/key_warden/keywarden/engine/LockMode" "intention" "Z" (.int (0 : Int32))) :
    MetFree l (⟨"com/example/key_warden/keywarden/engine/LockMode", "covers", "(Lcom/example/key_warden/keywarden/engine/LockMode;)Z"⟩ : MethodName) (head1 [Jvm.Cond.code (⟨"com/example/key_warden/keywarden/engine/LockMode", "covers", "(Lcom/example/key_warden/keywarden/engine/LockMode;)Z"⟩ : MethodName) prog_26_method_7_code 3 (some .boolean)] ({ frames := 0, cells := 0, slots := 0, locals := 0 } : Room)) (fun a U => a = #[(.ref r1), (.ref r2)] ∧ Z.Warmed39 U.vm ∧ U.heap = h0) (fun _ _ _ _ _ => True) (fun _ U o U' => ∃ v L, o = .returned v ∧ own_QP (some (.int (0 : Int32))) n0 h0 v U'.heap L ∧ FrameEnd U o U' L ({ frames := 0, cells := 0, slots := 0, locals := 0 } : Room).cells ({ frames := 0, cells := 0, slots := 0, locals := 0 } : Room).slots) := by
  refine MetFree.of_bodySF (plainFor_of_name pn_7) hisR ?_
  intro p e s m args below meth c s₁ Bd hml0 hP hK
  obtain ⟨rfl, hZ, hh⟩ := hP
  have hx := Bd.exec
  have hby := Bd.bytes
  have hml : c.maxLocals = 3 := hml0
  have hown : s.vm.findClass "com/example/key_warden/keywarden/engine/LockMode" = some m.cls := findClass_of_methodNamed Bd.named
  have hnm := (name_of_methodNamed Bd.named Bd.method).1
  have X0 : Stand p l e ({ frames := 0, cells := 0, slots := 0, locals := 0 } : Room) s m #[(.ref r1), (.ref r2)] below meth c s₁ [] 0 0 := Stand.of_body Bd
  have e0 : s₁.heap = h0 := by rw [← hh, Bd.state]; rfl
  have N0 := Fr.nil n0
  have pre0 : ∀ t, Steps p.tables e below (s₁.setTop (mkF m 0 #[.val (.ref r1), .val (.ref r2), .unset] [])) t → Steps p.tables e below (s₁.setTop (entryFrame m #[(.ref r1), (.ref r2)] 3)) t := fun t k => castTop (ef_2_RR m r1 r2) k
  obtain ⟨T1, X1, e1, st1⟩ := getF X0 hx hZ hown (host := "") (Or.inl (hw _ (List.mem_of_getElem? (i := 34) rfl))) Via.refl e0 P1 (g := (mkF m 1 #[.val (.ref r1), .val (.ref r2), .unset] [(.ref r1)])) rfl rfl (hb hby d2_1)
  obtain ⟨T2, X2, e2, st2⟩ := getF X1 hx hZ hown (host := "") (Or.inl (hw _ (List.mem_of_getElem? (i := 34) rfl))) Via.refl e1 P2 (g := (mkF m 8 #[.val (.ref r1), .val (.ref r2), .unset] [(.ref r2)])) rfl rfl (hb hby d2_8)
  have nz3 : r1 ≠ r2 := P3
  obtain ⟨T4, X4, e4, st4⟩ := getF X2 hx hZ hown (host := "") (Or.inl (hw _ (List.mem_of_getElem? (i := 36) rfl))) Via.refl e2 P4 (g := (mkF m 30 #[.val (.ref r1), .val (.ref r2), .unset] [(.ref r1)])) rfl rfl (hb hby d2_30)
  obtain ⟨T5, X5, e5, st5⟩ := getF X4 hx hZ hown (host := "") (Or.inl (hw _ (List.mem_of_getElem? (i := 36) rfl))) Via.refl e4 P5 (g := (mkF m 37 #[.val (.ref r1), .val (.ref r2), .unset] [(.ref r2)])) rfl rfl (hb hby d2_37)
  obtain ⟨T6, X6, e6, st6⟩ := getF X5 hx hZ hown (host := "") (Or.inl (hw _ (List.mem_of_getElem? (i := 38) rfl))) Via.refl e5 P6 (g := (mkF m 49 #[.val (.ref r1), .val (.ref r2), .unset] [(.ref r1)])) rfl rfl (hb hby d2_49)
  obtain ⟨T7, X7, e7, st7⟩ := getF X6 hx hZ hown (host := "") (Or.inl (hw _ (List.mem_of_getElem? (i := 38) rfl))) Via.refl e6 P6 (g := (mkF m 63 #[.val (.ref r1), .val (.ref r2), .unset] [(.ref r1)])) rfl rfl (hb hby d2_63)
  obtain ⟨T8, X8, e8, st8⟩ := getF X7 hx hZ hown (host := "") (Or.inl (hw _ (List.mem_of_getElem? (i := 38) rfl))) Via.refl e7 P7 (g := (mkF m 70 #[.val (.ref r1), .val (.ref r2), .unset] [(.ref r2)])) rfl rfl (hb hby d2_70)
  obtain ⟨fs, hr, hrun, hended, hW, hsame⟩ := X8.leave (v := (some (.int (0 : Int32)))) (fun h => by rw [Bd.returns] at h; cases h)
  refine ⟨_, _, pre0 _ ?_, hrun, hended, _, _, rfl, ?_, ⟨_, rfl⟩, hW, hsame.mono (by decide) (by decide)⟩
  · show Steps p.tables e below (s₁.setTop (mkF m 0 #[.val (.ref r1), .val (.ref r2), .unset] [])) _
    refine XS.aloadN X0.here hx rfl (hb hby d2_0) rfl rfl ?_
    show Steps p.tables e below (s₁.setTop (mkF m 1 #[.val (.ref r1), .val (.ref r2), .unset] [(.ref r1)])) _
    refine st1 _ ?_
    show Steps p.tables e below (T1.setTop (mkF m 4 #[.val (.ref r1), .val (.ref r2), .unset] [(.int (0 : Int32))])) _
    refine XS.ifNo X1.here hx rfl (hb hby d2_4) rfl (by decide) ?_
    show Steps p.tables e below (T1.setTop (mkF m 7 #[.val (.ref r1), .val (.ref r2), .unset] [])) _
    refine XS.aloadN X1.here hx rfl (hb hby d2_7) rfl rfl ?_
    show Steps p.tables e below (T1.setTop (mkF m 8 #[.val (.ref r1), .val (.ref r2), .unset] [(.ref r2)])) _
    refine st2 _ ?_
    show Steps p.tables e below (T2.setTop (mkF m 11 #[.val (.ref r1), .val (.ref r2), .unset] [(.int (0 : Int32))])) _
    refine XS.ifYes X2.here hx rfl (pc0 := 11) (pc' := 19) rfl (hb hby d2_11) rfl (by decide) (by decide) (by decide) ?_
    show Steps p.tables e below (T2.setTop (mkF m 19 #[.val (.ref r1), .val (.ref r2), .unset] [])) _
    refine XS.aloadN X2.here hx rfl (hb hby d2_19) rfl rfl ?_
    show Steps p.tables e below (T2.setTop (mkF m 20 #[.val (.ref r1), .val (.ref r2), .unset] [(.ref r1)])) _
    refine XS.aloadN X2.here hx rfl (hb hby d2_20) rfl rfl ?_
    show Steps p.tables e below (T2.setTop (mkF m 21 #[.val (.ref r1), .val (.ref r2), .unset] [(.ref r2), (.ref r1)])) _
    refine Jvm.RoadKit.acmp (g := (mkF m 21 #[.val (.ref r1), .val (.ref r2), .unset] [(.ref r2), (.ref r1)])) X2 hx rfl rfl rfl (pc0 := 21) (pc' := 29) (same := false) rfl (hb hby d2_21) rfl (decide_eq_false fun q => nz3 (Value.ref.inj q)) (by decide) (by decide) ?_
    show Steps p.tables e below (T2.setTop (mkF m 29 #[.val (.ref r1), .val (.ref r2), .unset] [])) _
    refine XS.aloadN X2.here hx rfl (hb hby d2_29) rfl rfl ?_
    show Steps p.tables e below (T2.setTop (mkF m 30 #[.val (.ref r1), .val (.ref r2), .unset] [(.ref r1)])) _
    refine st4 _ ?_
    show Steps p.tables e below (T4.setTop (mkF m 33 #[.val (.ref r1), .val (.ref r2), .unset] [(.int (0 : Int32))])) _
    refine XS.ifNo X4.here hx rfl (hb hby d2_33) rfl (by decide) ?_
    show Steps p.tables e below (T4.setTop (mkF m 36 #[.val (.ref r1), .val (.ref r2), .unset] [])) _
    refine XS.aloadN X4.here hx rfl (hb hby d2_36) rfl rfl ?_
    show Steps p.tables e below (T4.setTop (mkF m 37 #[.val (.ref r1), .val (.ref r2), .unset] [(.ref r2)])) _
    refine st5 _ ?_
    show Steps p.tables e below (T5.setTop (mkF m 40 #[.val (.ref r1), .val (.ref r2), .unset] [(.int (0 : Int32))])) _
    refine XS.ifYes X5.here hx rfl (pc0 := 40) (pc' := 48) rfl (hb hby d2_40) rfl (by decide) (by decide) (by decide) ?_
    show Steps p.tables e below (T5.setTop (mkF m 48 #[.val (.ref r1), .val (.ref r2), .unset] [])) _
    refine XS.aloadN X5.here hx rfl (hb hby d2_48) rfl rfl ?_
    show Steps p.tables e below (T5.setTop (mkF m 49 #[.val (.ref r1), .val (.ref r2), .unset] [(.ref r1)])) _
    refine st6 _ ?_
    show Steps p.tables e below (T6.setTop (mkF m 52 #[.val (.ref r1), .val (.ref r2), .unset] [(.int (1 : Int32))])) _
    refine XS.ifYes X6.here hx rfl (pc0 := 52) (pc' := 62) rfl (hb hby d2_52) rfl (by decide) (by decide) (by decide) ?_
    show Steps p.tables e below (T6.setTop (mkF m 62 #[.val (.ref r1), .val (.ref r2), .unset] [])) _
    refine XS.aloadN X6.here hx rfl (hb hby d2_62) rfl rfl ?_
    show Steps p.tables e below (T6.setTop (mkF m 63 #[.val (.ref r1), .val (.ref r2), .unset] [(.ref r1)])) _
    refine st7 _ ?_
    show Steps p.tables e below (T7.setTop (mkF m 66 #[.val (.ref r1), .val (.ref r2), .unset] [(.int (1 : Int32))])) _
    refine XS.ifNo X7.here hx rfl (hb hby d2_66) rfl (by decide) ?_
    show Steps p.tables e below (T7.setTop (mkF m 69 #[.val (.ref r1), .val (.ref r2), .unset] [])) _
    refine XS.aloadN X7.here hx rfl (hb hby d2_69) rfl rfl ?_
    show Steps p.tables e below (T7.setTop (mkF m 70 #[.val (.ref r1), .val (.ref r2), .unset] [(.ref r2)])) _
    refine st8 _ ?_
    show Steps p.tables e below (T8.setTop (mkF m 73 #[.val (.ref r1), .val (.ref r2), .unset] [(.int (0 : Int32))])) _
    refine XS.ifYes X8.here hx rfl (pc0 := 73) (pc' := 94) rfl (hb hby d2_73) rfl (by decide) (by decide) (by decide) ?_
    show Steps p.tables e below (T8.setTop (mkF m 94 #[.val (.ref r1), .val (.ref r2), .unset] [])) _
    refine XS.iconst X8.here hx rfl (hb hby d2_94) ?_
    show Steps p.tables e below (T8.setTop (mkF m 95 #[.val (.ref r1), .val (.ref r2), .unset] [(.int (0 : Int32))])) _
    refine XS.istoreN X8.here hx rfl (hb hby d2_95) rfl (l' := #[.val (.ref r1), .val (.ref r2), .val (.int (0 : Int32))]) rfl ?_
    show Steps p.tables e below (T8.setTop (mkF m 96 #[.val (.ref r1), .val (.ref r2), .val (.int (0 : Int32))] [])) _
    refine XS.goto X8.here hx rfl (pc0 := 96) (pc' := 147) rfl (hb hby d2_96) (by decide) (by decide) ?_
    show Steps p.tables e below (T8.setTop (mkF m 147 #[.val (.ref r1), .val (.ref r2), .val (.int (0 : Int32))] [])) _
    refine XS.iloadN X8.here hx rfl (hb hby d2_147) rfl ?_
    show Steps p.tables e below (T8.setTop (mkF m 148 #[.val (.ref r1), .val (.ref r2), .val (.int (0 : Int32))] [(.int (0 : Int32))])) _
    exact retN X8 hx (t := .boolean) Bd.returns (by simp) (hb hby d2_148) hr
  · show own_QP (some (.int (0 : Int32))) n0 h0 _ T8.heap _
    rw [e8]
    exact ⟨rfl, N0, rfl⟩
set_option maxRecDepth 65536 in
set_option maxHeartbeats 40000000 in
theorem rm2_3 (l : Launch) (Z : State) (a0 : Array Value) (hw : ∀ d ∈ tables_1, d.before a0 Z = true) (r1 : Addr) (r2 : Addr) (h0 : Heap) (n0 : Nat) (O0 : Old Z n0 h0) (P1 : Fld Z h0 r1 "com/example/key_warden/keywarden/engine/LockMode" "insertIntention" "Z" (.int (0 : Int32))) (P2 : Fld Z h0 r2 "com/example/key_warden/keywarden/engine/LockMode" "insertIntention" "Z" (.int (1 : Int32))) :
    MetFree l (⟨"com/example/key_warden/keywarden/engine/LockMode", "covers", "(Lcom/example/key_warden/keywarden/engine/LockMode;)Z"⟩ : MethodName) (head1 [Jvm.Cond.code (⟨"com/example/key_warden/keywarden/engine/LockMode", "covers", "(Lcom/example/key_warden/keywarden/engine/LockMode;)Z"⟩ : MethodName) prog_26_method_7_code 3 (some .boolean)] ({ frames := 0, cells := 0, slots := 0, locals := 0 } : Room)) (fun a U => a = #[(.ref r1), (.ref r2)] ∧ Z.Warmed39 U.vm ∧ U.heap = h0) (fun _ _ _ _ _ => True) (fun _ U o U' => ∃ v L, o = .returned v ∧ own_QP (some (.int (0 : Int32))) n0 h0 v U'.heap L ∧ FrameEnd U o U' L ({ frames := 0, cells := 0, slots := 0, locals := 0 } : Room).cells ({ frames := 0, cells := 0, slots := 0, locals := 0 } : Room).slots) := by
  refine MetFree.of_bodySF (plainFor_of_name pn_7) hisR ?_
  intro p e s m args below meth c s₁ Bd hml0 hP hK
  obtain ⟨rfl, hZ, hh⟩ := hP
  have hx := Bd.exec
  have hby := Bd.bytes
  have hml : c.maxLocals = 3 := hml0
  have hown : s.vm.findClass "com/example/key_warden/keywarden/engine/LockMode" = some m.cls := findClass_of_methodNamed Bd.named
  have hnm := (name_of_methodNamed Bd.named Bd.method).1
  have X0 : Stand p l e ({ frames := 0, cells := 0, slots := 0, locals := 0 } : Room) s m #[(.ref r1), (.ref r2)] below meth c s₁ [] 0 0 := Stand.of_body Bd
  have e0 : s₁.heap = h0 := by rw [← hh, Bd.state]; rfl
  have N0 := Fr.nil n0
  have pre0 : ∀ t, Steps p.tables e below (s₁.setTop (mkF m 0 #[.val (.ref r1), .val (.ref r2), .unset] [])) t → Steps p.tables e below (s₁.setTop (entryFrame m #[(.ref r1), (.ref r2)] 3)) t := fun t k => castTop (ef_2_RR m r1 r2) k
  obtain ⟨T1, X1, e1, st1⟩ := getF X0 hx hZ hown (host := "") (Or.inl (hw _ (List.mem_of_getElem? (i := 34) rfl))) Via.refl e0 P1 (g := (mkF m 1 #[.val (.ref r1), .val (.ref r2), .unset] [(.ref r1)])) rfl rfl (hb hby d2_1)
  obtain ⟨T2, X2, e2, st2⟩ := getF X1 hx hZ hown (host := "") (Or.inl (hw _ (List.mem_of_getElem? (i := 34) rfl))) Via.refl e1 P2 (g := (mkF m 8 #[.val (.ref r1), .val (.ref r2), .unset] [(.ref r2)])) rfl rfl (hb hby d2_8)
  obtain ⟨fs, hr, hrun, hended, hW, hsame⟩ := X2.leave (v := (some (.int (0 : Int32)))) (fun h => by rw [Bd.returns] at h; cases h)
  refine ⟨_, _, pre0 _ ?_, hrun, hended, _, _, rfl, ?_, ⟨_, rfl⟩, hW, hsame.mono (by decide) (by decide)⟩
  · show Steps p.tables e below (s₁.setTop (mkF m 0 #[.val (.ref r1), .val (.ref r2), .unset] [])) _
    refine XS.aloadN X0.here hx rfl (hb hby d2_0) rfl rfl ?_
    show Steps p.tables e below (s₁.setTop (mkF m 1 #[.val (.ref r1), .val (.ref r2), .unset] [(.ref r1)])) _
    refine st1 _ ?_
    show Steps p.tables e below (T1.setTop (mkF m 4 #[.val (.ref r1), .val (.ref r2), .unset] [(.int (0 : Int32))])) _
    refine XS.ifNo X1.here hx rfl (hb hby d2_4) rfl (by decide) ?_
    show Steps p.tables e below (T1.setTop (mkF m 7 #[.val (.ref r1), .val (.ref r2), .unset] [])) _
    refine XS.aloadN X1.here hx rfl (hb hby d2_7) rfl rfl ?_
    show Steps p.tables e below (T1.setTop (mkF m 8 #[.val (.ref r1), .val (.ref r2), .unset] [(.ref r2)])) _
    refine st2 _ ?_
    show Steps p.tables e below (T2.setTop (mkF m 11 #[.val (.ref r1), .val (.ref r2), .unset] [(.int (1 : Int32))])) _
    refine XS.ifNo X2.here hx rfl (hb hby d2_11) rfl (by decide) ?_
    show Steps p.tables e below (T2.setTop (mkF m 14 #[.val (.ref r1), .val (.ref r2), .unset] [])) _
    refine XS.iconst X2.here hx rfl (hb hby d2_14) ?_
    show Steps p.tables e below (T2.setTop (mkF m 15 #[.val (.ref r1), .val (.ref r2), .unset] [(.int (0 : Int32))])) _
    refine XS.istoreN X2.here hx rfl (hb hby d2_15) rfl (l' := #[.val (.ref r1), .val (.ref r2), .val (.int (0 : Int32))]) rfl ?_
    show Steps p.tables e below (T2.setTop (mkF m 16 #[.val (.ref r1), .val (.ref r2), .val (.int (0 : Int32))] [])) _
    refine XS.goto X2.here hx rfl (pc0 := 16) (pc' := 147) rfl (hb hby d2_16) (by decide) (by decide) ?_
    show Steps p.tables e below (T2.setTop (mkF m 147 #[.val (.ref r1), .val (.ref r2), .val (.int (0 : Int32))] [])) _
    refine XS.iloadN X2.here hx rfl (hb hby d2_147) rfl ?_
    show Steps p.tables e below (T2.setTop (mkF m 148 #[.val (.ref r1), .val (.ref r2), .val (.int (0 : Int32))] [(.int (0 : Int32))])) _
    exact retN X2 hx (t := .boolean) Bd.returns (by simp) (hb hby d2_148) hr
  · show own_QP (some (.int (0 : Int32))) n0 h0 _ T2.heap _
    rw [e2]
    exact ⟨rfl, N0, rfl⟩
set_option maxRecDepth 65536 in
set_option maxHeartbeats 40000000 in
theorem rm2_4 (l : Launch) (Z : State) (a0 : Array Value) (hw : ∀ d ∈ tables_1, d.before a0 Z = true) (r1 : Addr) (r2 : Addr) (h0 : Heap) (n0 : Nat) (O0 : Old Z n0 h0) (P1 : Fld Z h0 r1 "com/example/key_warden/keywarden/engine/LockMode" "insertIntention" "Z" (.int (0 : Int32))) (P2 : Fld Z h0 r2 "com/example/key_warden/keywarden/engine/LockMode" "insertIntention" "Z" (.int (0 : Int32))) (P3 : r1 ≠ r2) (P4 : Fld Z h0 r1 "com/example/key_warden/keywarden/engine/LockMode" "keyLock" "Z" (.int (0 : Int32))) (P5 : Fld Z h0 r2 "com/example/key_warden/keywarden/engine/LockMode" "keyLock" "Z" (.int (1 : Int32))) :
    MetFree l (⟨"com/example/key_warden/keywarden/engine/LockMode", "covers", "(Lcom/example/key_warden/keywarden/engine/LockMode;)Z"⟩ : MethodName) (head1 [Jvm.Cond.code (⟨"com/example/key_warden/keywarden/engine/LockMode", "covers", "(Lcom/example/key_warden/keywarden/engine/LockMode;)Z"⟩ : MethodName) prog_26_method_7_code 3 (some .boolean)] ({ frames := 0, cells := 0, slots := 0, locals := 0 } : Room)) (fun a U => a = #[(.ref r1), (.ref r2)] ∧ Z.Warmed39 U.vm ∧ U.heap = h0) (fun _ _ _ _ _ => True) (fun _ U o U' => ∃ v L, o = .returned v ∧ own_QP (some (.int (0 : Int32))) n0 h0 v U'.heap L ∧ FrameEnd U o U' L ({ frames := 0, cells := 0, slots := 0, locals := 0 } : Room).cells ({ frames := 0, cells := 0, slots := 0, locals := 0 } : Room).slots) := by
  refine MetFree.of_bodySF (plainFor_of_name pn_7) hisR ?_
  intro p e s m args below meth c s₁ Bd hml0 hP hK
  obtain ⟨rfl, hZ, hh⟩ := hP
  have hx := Bd.exec
  have hby := Bd.bytes
  have hml : c.maxLocals = 3 := hml0
  have hown : s.vm.findClass "com/example/key_warden/keywarden/engine/LockMode" = some m.cls := findClass_of_methodNamed Bd.named
  have hnm := (name_of_methodNamed Bd.named Bd.method).1
  have X0 : Stand p l e ({ frames := 0, cells := 0, slots := 0, locals := 0 } : Room) s m #[(.ref r1), (.ref r2)] below meth c s₁ [] 0 0 := Stand.of_body Bd
  have e0 : s₁.heap = h0 := by rw [← hh, Bd.state]; rfl
  have N0 := Fr.nil n0
  have pre0 : ∀ t, Steps p.tables e below (s₁.setTop (mkF m 0 #[.val (.ref r1), .val (.ref r2), .unset] [])) t → Steps p.tables e below (s₁.setTop (entryFrame m #[(.ref r1), (.ref r2)] 3)) t := fun t k => castTop (ef_2_RR m r1 r2) k
  obtain ⟨T1, X1, e1, st1⟩ := getF X0 hx hZ hown (host := "") (Or.inl (hw _ (List.mem_of_getElem? (i := 34) rfl))) Via.refl e0 P1 (g := (mkF m 1 #[.val (.ref r1), .val (.ref r2), .unset] [(.ref r1)])) rfl rfl (hb hby d2_1)
  obtain ⟨T2, X2, e2, st2⟩ := getF X1 hx hZ hown (host := "") (Or.inl (hw _ (List.mem_of_getElem? (i := 34) rfl))) Via.refl e1 P2 (g := (mkF m 8 #[.val (.ref r1), .val (.ref r2), .unset] [(.ref r2)])) rfl rfl (hb hby d2_8)
  have nz3 : r1 ≠ r2 := P3
  obtain ⟨T4, X4, e4, st4⟩ := getF X2 hx hZ hown (host := "") (Or.inl (hw _ (List.mem_of_getElem? (i := 36) rfl))) Via.refl e2 P4 (g := (mkF m 30 #[.val (.ref r1), .val (.ref r2), .unset] [(.ref r1)])) rfl rfl (hb hby d2_30)
  obtain ⟨T5, X5, e5, st5⟩ := getF X4 hx hZ hown (host := "") (Or.inl (hw _ (List.mem_of_getElem? (i := 36) rfl))) Via.refl e4 P5 (g := (mkF m 37 #[.val (.ref r1), .val (.ref r2), .unset] [(.ref r2)])) rfl rfl (hb hby d2_37)
  obtain ⟨fs, hr, hrun, hended, hW, hsame⟩ := X5.leave (v := (some (.int (0 : Int32)))) (fun h => by rw [Bd.returns] at h; cases h)
  refine ⟨_, _, pre0 _ ?_, hrun, hended, _, _, rfl, ?_, ⟨_, rfl⟩, hW, hsame.mono (by decide) (by decide)⟩
  · show Steps p.tables e below (s₁.setTop (mkF m 0 #[.val (.ref r1), .val (.ref r2), .unset] [])) _
    refine XS.aloadN X0.here hx rfl (hb hby d2_0) rfl rfl ?_
    show Steps p.tables e below (s₁.setTop (mkF m 1 #[.val (.ref r1), .val (.ref r2), .unset] [(.ref r1)])) _
    refine st1 _ ?_
    show Steps p.tables e below (T1.setTop (mkF m 4 #[.val (.ref r1), .val (.ref r2), .unset] [(.int (0 : Int32))])) _
    refine XS.ifNo X1.here hx rfl (hb hby d2_4) rfl (by decide) ?_
    show Steps p.tables e below (T1.setTop (mkF m 7 #[.val (.ref r1), .val (.ref r2), .unset] [])) _
    refine XS.aloadN X1.here hx rfl (hb hby d2_7) rfl rfl ?_
    show Steps p.tables e below (T1.setTop (mkF m 8 #[.val (.ref r1), .val (.ref r2), .unset] [(.ref r2)])) _
    refine st2 _ ?_
    show Steps p.tables e below (T2.setTop (mkF m 11 #[.val (.ref r1), .val (.ref r2), .unset] [(.int (0 : Int32))])) _
    refine XS.ifYes X2.here hx rfl (pc0 := 11) (pc' := 19) rfl (hb hby d2_11) rfl (by decide) (by decide) (by decide) ?_
    show Steps p.tables e below (T2.setTop (mkF m 19 #[.val (.ref r1), .val (.ref r2), .unset] [])) _
    refine XS.aloadN X2.here hx rfl (hb hby d2_19) rfl rfl ?_
    show Steps p.tables e below (T2.setTop (mkF m 20 #[.val (.ref r1), .val (.ref r2), .unset] [(.ref r1)])) _
    refine XS.aloadN X2.here hx rfl (hb hby d2_20) rfl rfl ?_
    show Steps p.tables e below (T2.setTop (mkF m 21 #[.val (.ref r1), .val (.ref r2), .unset] [(.ref r2), (.ref r1)])) _
    refine Jvm.RoadKit.acmp (g := (mkF m 21 #[.val (.ref r1), .val (.ref r2), .unset] [(.ref r2), (.ref r1)])) X2 hx rfl rfl rfl (pc0 := 21) (pc' := 29) (same := false) rfl (hb hby d2_21) rfl (decide_eq_false fun q => nz3 (Value.ref.inj q)) (by decide) (by decide) ?_
    show Steps p.tables e below (T2.setTop (mkF m 29 #[.val (.ref r1), .val (.ref r2), .unset] [])) _
    refine XS.aloadN X2.here hx rfl (hb hby d2_29) rfl rfl ?_
    show Steps p.tables e below (T2.setTop (mkF m 30 #[.val (.ref r1), .val (.ref r2), .unset] [(.ref r1)])) _
    refine st4 _ ?_
    show Steps p.tables e below (T4.setTop (mkF m 33 #[.val (.ref r1), .val (.ref r2), .unset] [(.int (0 : Int32))])) _
    refine XS.ifNo X4.here hx rfl (hb hby d2_33) rfl (by decide) ?_
    show Steps p.tables e below (T4.setTop (mkF m 36 #[.val (.ref r1), .val (.ref r2), .unset] [])) _
    refine XS.aloadN X4.here hx rfl (hb hby d2_36) rfl rfl ?_
    show Steps p.tables e below (T4.setTop (mkF m 37 #[.val (.ref r1), .val (.ref r2), .unset] [(.ref r2)])) _
    refine st5 _ ?_
    show Steps p.tables e below (T5.setTop (mkF m 40 #[.val (.ref r1), .val (.ref r2), .unset] [(.int (1 : Int32))])) _
    refine XS.ifNo X5.here hx rfl (hb hby d2_40) rfl (by decide) ?_
    show Steps p.tables e below (T5.setTop (mkF m 43 #[.val (.ref r1), .val (.ref r2), .unset] [])) _
    refine XS.iconst X5.here hx rfl (hb hby d2_43) ?_
    show Steps p.tables e below (T5.setTop (mkF m 44 #[.val (.ref r1), .val (.ref r2), .unset] [(.int (0 : Int32))])) _
    refine XS.istoreN X5.here hx rfl (hb hby d2_44) rfl (l' := #[.val (.ref r1), .val (.ref r2), .val (.int (0 : Int32))]) rfl ?_
    show Steps p.tables e below (T5.setTop (mkF m 45 #[.val (.ref r1), .val (.ref r2), .val (.int (0 : Int32))] [])) _
    refine XS.goto X5.here hx rfl (pc0 := 45) (pc' := 147) rfl (hb hby d2_45) (by decide) (by decide) ?_
    show Steps p.tables e below (T5.setTop (mkF m 147 #[.val (.ref r1), .val (.ref r2), .val (.int (0 : Int32))] [])) _
    refine XS.iloadN X5.here hx rfl (hb hby d2_147) rfl ?_
    show Steps p.tables e below (T5.setTop (mkF m 148 #[.val (.ref r1), .val (.ref r2), .val (.int (0 : Int32))] [(.int (0 : Int32))])) _
    exact retN X5 hx (t := .boolean) Bd.returns (by simp) (hb hby d2_148) hr
  · show own_QP (some (.int (0 : Int32))) n0 h0 _ T5.heap _
    rw [e5]
    exact ⟨rfl, N0, rfl⟩
set_option maxRecDepth 65536 in
set_option maxHeartbeats 40000000 in
theorem rm2_5 (l : Launch) (Z : State) (a0 : Array Value) (hw : ∀ d ∈ tables_1, d.before a0 Z = true) (r1 : Addr) (r2 : Addr) (h0 : Heap) (n0 : Nat) (O0 : Old Z n0 h0) (P1 : Fld Z h0 r1 "com/example/key_warden/keywarden/engine/LockMode" "insertIntention" "Z" (.int (0 : Int32))) (P2 : Fld Z h0 r2 "com/example/key_warden/keywarden/engine/LockMode" "insertIntention" "Z" (.int (0 : Int32))) (P3 : r1 ≠ r2) (P4 : Fld Z h0 r1 "com/example/key_warden/keywarden/engine/LockMode" "keyLock" "Z" (.int (0 : Int32))) (P5 : Fld Z h0 r2 "com/example/key_warden/keywarden/engine/LockMode" "keyLock" "Z" (.int (0 : Int32))) (P6 : Fld Z h0 r1 "com/example/key_warden/keywarden/engine/LockMode" "intention" "Z" (.int (1 : Int32))) (P7 : Fld Z h0 r2 "com/example/key_warden/keywarden/engine/LockMode" "intention" "Z" (.int (1 : Int32))) (P8 : Fld Z h0 r1 "com/example/key_warden/keywarden/engine/LockMode" "shared" "Z" (.int (1 : Int32))) (P9 : Fld Z h0 r2 "com/example/key_warden/keywarden/engine/LockMode" "shared" "Z" (.int (0 : Int32))) :
    MetFree l (⟨"com/example/key_warden/keywarden/engine/LockMode", "covers", "(Lcom/example/key_warden/keywarden/engine/LockMode;)Z"⟩ : MethodName) (head1 [Jvm.Cond.code (⟨"com/example/key_warden/keywarden/engine/LockMode", "covers", "(Lcom/example/key_warden/keywarden/engine/LockMode;)Z"⟩ : MethodName) prog_26_method_7_code 3 (some .boolean)] ({ frames := 0, cells := 0, slots := 0, locals := 0 } : Room)) (fun a U => a = #[(.ref r1), (.ref r2)] ∧ Z.Warmed39 U.vm ∧ U.heap = h0) (fun _ _ _ _ _ => True) (fun _ U o U' => ∃ v L, o = .returned v ∧ own_QP (some (.int (0 : Int32))) n0 h0 v U'.heap L ∧ FrameEnd U o U' L ({ frames := 0, cells := 0, slots := 0, locals := 0 } : Room).cells ({ frames := 0, cells := 0, slots := 0, locals := 0 } : Room).slots) := by
  refine MetFree.of_bodySF (plainFor_of_name pn_7) hisR ?_
  intro p e s m args below meth c s₁ Bd hml0 hP hK
  obtain ⟨rfl, hZ, hh⟩ := hP
  have hx := Bd.exec
  have hby := Bd.bytes
  have hml : c.maxLocals = 3 := hml0
  have hown : s.vm.findClass "com/example/key_warden/keywarden/engine/LockMode" = some m.cls := findClass_of_methodNamed Bd.named
  have hnm := (name_of_methodNamed Bd.named Bd.method).1
  have X0 : Stand p l e ({ frames := 0, cells := 0, slots := 0, locals := 0 } : Room) s m #[(.ref r1), (.ref r2)] below meth c s₁ [] 0 0 := Stand.of_body Bd
  have e0 : s₁.heap = h0 := by rw [← hh, Bd.state]; rfl
  have N0 := Fr.nil n0
  have pre0 : ∀ t, Steps p.tables e below (s₁.setTop (mkF m 0 #[.val (.ref r1), .val (.ref r2), .unset] [])) t → Steps p.tables e below (s₁.setTop (entryFrame m #[(.ref r1), (.ref r2)] 3)) t := fun t k => castTop (ef_2_RR m r1 r2) k
  obtain ⟨T1, X1, e1, st1⟩ := getF X0 hx hZ hown (host := "") (Or.inl (hw _ (List.mem_of_getElem? (i := 34) rfl))) Via.refl e0 P1 (g := (mkF m 1 #[.val (.ref r1), .val (.ref r2), .unset] [(.ref r1)])) rfl rfl (hb hby d2_1)
  obtain ⟨T2, X2, e2, st2⟩ := getF X1 hx hZ hown (host := "") (Or.inl (hw _ (List.mem_of_getElem? (i := 34) rfl))) Via.refl e1 P2 (g := (mkF m 8 #[.val (.ref r1), .val (.ref r2), .unset] [(.ref r2)])) rfl rfl (hb hby d2_8)
  have nz3 : r1 ≠ r2 := P3
  obtain ⟨T4, X4, e4, st4⟩ := getF X2 hx hZ hown (host := "") (Or.inl (hw _ (List.mem_of_getElem? (i := 36) rfl))) Via.refl e2 P4 (g := (mkF m 30 #[.val (.ref r1), .val (.ref r2), .unset] [(.ref r1)])) rfl rfl (hb hby d2_30)
  obtain ⟨T5, X5, e5, st5⟩ := getF X4 hx hZ hown (host := "") (Or.inl (hw _ (List.mem_of_getElem? (i := 36) rfl))) Via.refl e4 P5 (g := (mkF m 37 #[.val (.ref r1), .val (.ref r2), .unset] [(.ref r2)])) rfl rfl (hb hby d2_37)
  obtain ⟨T6, X6, e6, st6⟩ := getF X5 hx hZ hown (host := "") (Or.inl (hw _ (List.mem_of_getElem? (i := 38) rfl))) Via.refl e5 P6 (g := (mkF m 49 #[.val (.ref r1), .val (.ref r2), .unset] [(.ref r1)])) rfl rfl (hb hby d2_49)
  obtain ⟨T7, X7, e7, st7⟩ := getF X6 hx hZ hown (host := "") (Or.inl (hw _ (List.mem_of_getElem? (i := 38) rfl))) Via.refl e6 P6 (g := (mkF m 63 #[.val (.ref r1), .val (.ref r2), .unset] [(.ref r1)])) rfl rfl (hb hby d2_63)
  obtain ⟨T8, X8, e8, st8⟩ := getF X7 hx hZ hown (host := "") (Or.inl (hw _ (List.mem_of_getElem? (i := 38) rfl))) Via.refl e7 P7 (g := (mkF m 70 #[.val (.ref r1), .val (.ref r2), .unset] [(.ref r2)])) rfl rfl (hb hby d2_70)
  obtain ⟨T9, X9, e9, st9⟩ := getF X8 hx hZ hown (host := "") (Or.inl (hw _ (List.mem_of_getElem? (i := 44) rfl))) Via.refl e8 P8 (g := (mkF m 77 #[.val (.ref r1), .val (.ref r2), .unset] [(.ref r1)])) rfl rfl (hb hby d2_77)
  obtain ⟨T10, X10, e10, st10⟩ := getF X9 hx hZ hown (host := "") (Or.inl (hw _ (List.mem_of_getElem? (i := 44) rfl))) Via.refl e9 P9 (g := (mkF m 84 #[.val (.ref r1), .val (.ref r2), .unset] [(.ref r2)])) rfl rfl (hb hby d2_84)
  obtain ⟨fs, hr, hrun, hended, hW, hsame⟩ := X10.leave (v := (some (.int (0 : Int32)))) (fun h => by rw [Bd.returns] at h; cases h)
  refine ⟨_, _, pre0 _ ?_, hrun, hended, _, _, rfl, ?_, ⟨_, rfl⟩, hW, hsame.mono (by decide) (by decide)⟩
  · show Steps p.tables e below (s₁.setTop (mkF m 0 #[.val (.ref r1), .val (.ref r2), .unset] [])) _
    refine XS.aloadN X0.here hx rfl (hb hby d2_0) rfl rfl ?_
    show Steps p.tables e below (s₁.setTop (mkF m 1 #[.val (.ref r1), .val (.ref r2), .unset] [(.ref r1)])) _
    refine st1 _ ?_
    show Steps p.tables e below (T1.setTop (mkF m 4 #[.val (.ref r1), .val (.ref r2), .unset] [(.int (0 : Int32))])) _
    refine XS.ifNo X1.here hx rfl (hb hby d2_4) rfl (by decide) ?_
    show Steps p.tables e below (T1.setTop (mkF m 7 #[.val (.ref r1), .val (.ref r2), .unset] [])) _
    refine XS.aloadN X1.here hx rfl (hb hby d2_7) rfl rfl ?_
    show Steps p.tables e below (T1.setTop (mkF m 8 #[.val (.ref r1), .val (.ref r2), .unset] [(.ref r2)])) _
    refine st2 _ ?_
    show Steps p.tables e below (T2.setTop (mkF m 11 #[.val (.ref r1), .val (.ref r2), .unset] [(.int (0 : Int32))])) _
    refine XS.ifYes X2.here hx rfl (pc0 := 11) (pc' := 19) rfl (hb hby d2_11) rfl (by decide) (by decide) (by decide) ?_
    show Steps p.tables e below (T2.setTop (mkF m 19 #[.val (.ref r1), .val (.ref r2), .unset] [])) _
    refine XS.aloadN X2.here hx rfl (hb hby d2_19) rfl rfl ?_
    show Steps p.tables e below (T2.setTop (mkF m 20 #[.val (.ref r1), .val (.ref r2), .unset] [(.ref r1)])) _
    refine XS.aloadN X2.here hx rfl (hb hby d2_20) rfl rfl ?_
    show Steps p.tables e below (T2.setTop (mkF m 21 #[.val (.ref r1), .val (.ref r2), .unset] [(.ref r2), (.ref r1)])) _
    refine Jvm.RoadKit.acmp (g := (mkF m 21 #[.val (.ref r1), .val (.ref r2), .unset] [(.ref r2), (.ref r1)])) X2 hx rfl rfl rfl (pc0 := 21) (pc' := 29) (same := false) rfl (hb hby d2_21) rfl (decide_eq_false fun q => nz3 (Value.ref.inj q)) (by decide) (by decide) ?_
    show Steps p.tables e below (T2.setTop (mkF m 29 #[.val (.ref r1), .val (.ref r2), .unset] [])) _
    refine XS.aloadN X2.here hx rfl (hb hby d2_29) rfl rfl ?_
    show Steps p.tables e below (T2.setTop (mkF m 30 #[.val (.ref r1), .val (.ref r2), .unset] [(.ref r1)])) _
    refine st4 _ ?_
    show Steps p.tables e below (T4.setTop (mkF m 33 #[.val (.ref r1), .val (.ref r2), .unset] [(.int (0 : Int32))])) _
    refine XS.ifNo X4.here hx rfl (hb hby d2_33) rfl (by decide) ?_
    show Steps p.tables e below (T4.setTop (mkF m 36 #[.val (.ref r1), .val (.ref r2), .unset] [])) _
    refine XS.aloadN X4.here hx rfl (hb hby d2_36) rfl rfl ?_
    show Steps p.tables e below (T4.setTop (mkF m 37 #[.val (.ref r1), .val (.ref r2), .unset] [(.ref r2)])) _
    refine st5 _ ?_
    show Steps p.tables e below (T5.setTop (mkF m 40 #[.val (.ref r1), .val (.ref r2), .unset] [(.int (0 : Int32))])) _
    refine XS.ifYes X5.here hx rfl (pc0 := 40) (pc' := 48) rfl (hb hby d2_40) rfl (by decide) (by decide) (by decide) ?_
    show Steps p.tables e below (T5.setTop (mkF m 48 #[.val (.ref r1), .val (.ref r2), .unset] [])) _
    refine XS.aloadN X5.here hx rfl (hb hby d2_48) rfl rfl ?_
    show Steps p.tables e below (T5.setTop (mkF m 49 #[.val (.ref r1), .val (.ref r2), .unset] [(.ref r1)])) _
    refine st6 _ ?_
    show Steps p.tables e below (T6.setTop (mkF m 52 #[.val (.ref r1), .val (.ref r2), .unset] [(.int (1 : Int32))])) _
    refine XS.ifYes X6.here hx rfl (pc0 := 52) (pc' := 62) rfl (hb hby d2_52) rfl (by decide) (by decide) (by decide) ?_
    show Steps p.tables e below (T6.setTop (mkF m 62 #[.val (.ref r1), .val (.ref r2), .unset] [])) _
    refine XS.aloadN X6.here hx rfl (hb hby d2_62) rfl rfl ?_
    show Steps p.tables e below (T6.setTop (mkF m 63 #[.val (.ref r1), .val (.ref r2), .unset] [(.ref r1)])) _
    refine st7 _ ?_
    show Steps p.tables e below (T7.setTop (mkF m 66 #[.val (.ref r1), .val (.ref r2), .unset] [(.int (1 : Int32))])) _
    refine XS.ifNo X7.here hx rfl (hb hby d2_66) rfl (by decide) ?_
    show Steps p.tables e below (T7.setTop (mkF m 69 #[.val (.ref r1), .val (.ref r2), .unset] [])) _
    refine XS.aloadN X7.here hx rfl (hb hby d2_69) rfl rfl ?_
    show Steps p.tables e below (T7.setTop (mkF m 70 #[.val (.ref r1), .val (.ref r2), .unset] [(.ref r2)])) _
    refine st8 _ ?_
    show Steps p.tables e below (T8.setTop (mkF m 73 #[.val (.ref r1), .val (.ref r2), .unset] [(.int (1 : Int32))])) _
    refine XS.ifNo X8.here hx rfl (hb hby d2_73) rfl (by decide) ?_
    show Steps p.tables e below (T8.setTop (mkF m 76 #[.val (.ref r1), .val (.ref r2), .unset] [])) _
    refine XS.aloadN X8.here hx rfl (hb hby d2_76) rfl rfl ?_
    show Steps p.tables e below (T8.setTop (mkF m 77 #[.val (.ref r1), .val (.ref r2), .unset] [(.ref r1)])) _
    refine st9 _ ?_
    show Steps p.tables e below (T9.setTop (mkF m 80 #[.val (.ref r1), .val (.ref r2), .unset] [(.int (1 : Int32))])) _
    refine XS.ifNo X9.here hx rfl (hb hby d2_80) rfl (by decide) ?_
    show Steps p.tables e below (T9.setTop (mkF m 83 #[.val (.ref r1), .val (.ref r2), .unset] [])) _
    refine XS.aloadN X9.here hx rfl (hb hby d2_83) rfl rfl ?_
    show Steps p.tables e below (T9.setTop (mkF m 84 #[.val (.ref r1), .val (.ref r2), .unset] [(.ref r2)])) _
    refine st10 _ ?_
    show Steps p.tables e below (T10.setTop (mkF m 87 #[.val (.ref r1), .val (.ref r2), .unset] [(.int (0 : Int32))])) _
    refine XS.ifYes X10.here hx rfl (pc0 := 87) (pc' := 94) rfl (hb hby d2_87) rfl (by decide) (by decide) (by decide) ?_
    show Steps p.tables e below (T10.setTop (mkF m 94 #[.val (.ref r1), .val (.ref r2), .unset] [])) _
    refine XS.iconst X10.here hx rfl (hb hby d2_94) ?_
    show Steps p.tables e below (T10.setTop (mkF m 95 #[.val (.ref r1), .val (.ref r2), .unset] [(.int (0 : Int32))])) _
    refine XS.istoreN X10.here hx rfl (hb hby d2_95) rfl (l' := #[.val (.ref r1), .val (.ref r2), .val (.int (0 : Int32))]) rfl ?_
    show Steps p.tables e below (T10.setTop (mkF m 96 #[.val (.ref r1), .val (.ref r2), .val (.int (0 : Int32))] [])) _
    refine XS.goto X10.here hx rfl (pc0 := 96) (pc' := 147) rfl (hb hby d2_96) (by decide) (by decide) ?_
    show Steps p.tables e below (T10.setTop (mkF m 147 #[.val (.ref r1), .val (.ref r2), .val (.int (0 : Int32))] [])) _
    refine XS.iloadN X10.here hx rfl (hb hby d2_147) rfl ?_
    show Steps p.tables e below (T10.setTop (mkF m 148 #[.val (.ref r1), .val (.ref r2), .val (.int (0 : Int32))] [(.int (0 : Int32))])) _
    exact retN X10 hx (t := .boolean) Bd.returns (by simp) (hb hby d2_148) hr
  · show own_QP (some (.int (0 : Int32))) n0 h0 _ T10.heap _
    rw [e10]
    exact ⟨rfl, N0, rfl⟩
set_option maxRecDepth 65536 in
set_option maxHeartbeats 40000000 in
theorem rm2_6 (l : Launch) (Z : State) (a0 : Array Value) (hw : ∀ d ∈ tables_1, d.before a0 Z = true) (r1 : Addr) (r2 : Addr) (h0 : Heap) (n0 : Nat) (O0 : Old Z n0 h0) (P1 : Fld Z h0 r1 "com/example/key_warden/keywarden/engine/LockMode" "insertIntention" "Z" (.int (0 : Int32))) (P2 : Fld Z h0 r2 "com/example/key_warden/keywarden/engine/LockMode" "insertIntention" "Z" (.int (0 : Int32))) (P3 : r1 ≠ r2) (P4 : Fld Z h0 r1 "com/example/key_warden/keywarden/engine/LockMode" "keyLock" "Z" (.int (0 : Int32))) (P5 : Fld Z h0 r2 "com/example/key_warden/keywarden/engine/LockMode" "keyLock" "Z" (.int (0 : Int32))) (P6 : Fld Z h0 r1 "com/example/key_warden/keywarden/engine/LockMode" "intention" "Z" (.int (0 : Int32))) (P7 : Fld Z h0 r2 "com/example/key_warden/keywarden/engine/LockMode" "intention" "Z" (.int (1 : Int32))) :
    MetFree l (⟨"com/example/key_warden/keywarden/engine/LockMode", "covers", "(Lcom/example/key_warden/keywarden/engine/LockMode;)Z"⟩ : MethodName) (head1 [Jvm.Cond.code (⟨"com/example/key_warden/keywarden/engine/LockMode", "covers", "(Lcom/example/key_warden/keywarden/engine/LockMode;)Z"⟩ : MethodName) prog_26_method_7_code 3 (some .boolean)] ({ frames := 0, cells := 0, slots := 0, locals := 0 } : Room)) (fun a U => a = #[(.ref r1), (.ref r2)] ∧ Z.Warmed39 U.vm ∧ U.heap = h0) (fun _ _ _ _ _ => True) (fun _ U o U' => ∃ v L, o = .returned v ∧ own_QP (some (.int (0 : Int32))) n0 h0 v U'.heap L ∧ FrameEnd U o U' L ({ frames := 0, cells := 0, slots := 0, locals := 0 } : Room).cells ({ frames := 0, cells := 0, slots := 0, locals := 0 } : Room).slots) := by
  refine MetFree.of_bodySF (plainFor_of_name pn_7) hisR ?_
  intro p e s m args below meth c s₁ Bd hml0 hP hK
  obtain ⟨rfl, hZ, hh⟩ := hP
  have hx := Bd.exec
  have hby := Bd.bytes
  have hml : c.maxLocals = 3 := hml0
  have hown : s.vm.findClass "com/example/key_warden/keywarden/engine/LockMode" = some m.cls := findClass_of_methodNamed Bd.named
  have hnm := (name_of_methodNamed Bd.named Bd.method).1
  have X0 : Stand p l e ({ frames := 0, cells := 0, slots := 0, locals := 0 } : Room) s m #[(.ref r1), (.ref r2)] below meth c s₁ [] 0 0 := Stand.of_body Bd
  have e0 : s₁.heap = h0 := by rw [← hh, Bd.state]; rfl
  have N0 := Fr.nil n0
  have pre0 : ∀ t, Steps p.tables e below (s₁.setTop (mkF m 0 #[.val (.ref r1), .val (.ref r2), .unset] [])) t → Steps p.tables e below (s₁.setTop (entryFrame m #[(.ref r1), (.ref r2)] 3)) t := fun t k => castTop (ef_2_RR m r1 r2) k
  obtain ⟨T1, X1, e1, st1⟩ := getF X0 hx hZ hown (host := "") (Or.inl (hw _ (List.mem_of_getElem? (i := 34) rfl))) Via.refl e0 P1 (g := (mkF m 1 #[.val (.ref r1), .val (.ref r2), .unset] [(.ref r1)])) rfl rfl (hb hby d2_1)
  obtain ⟨T2, X2, e2, st2⟩ := getF X1 hx hZ hown (host := "") (Or.inl (hw _ (List.mem_of_getElem? (i := 34) rfl))) Via.refl e1 P2 (g := (mkF m 8 #[.val (.ref r1), .val (.ref r2), .unset] [(.ref r2)])) rfl rfl (hb hby d2_8)
  have nz3 : r1 ≠ r2 := P3
  obtain ⟨T4, X4, e4, st4⟩ := getF X2 hx hZ hown (host := "") (Or.inl (hw _ (List.mem_of_getElem? (i := 36) rfl))) Via.refl e2 P4 (g := (mkF m 30 #[.val (.ref r1), .val (.ref r2), .unset] [(.ref r1)])) rfl rfl (hb hby d2_30)
  obtain ⟨T5, X5, e5, st5⟩ := getF X4 hx hZ hown (host := "") (Or.inl (hw _ (List.mem_of_getElem? (i := 36) rfl))) Via.refl e4 P5 (g := (mkF m 37 #[.val (.ref r1), .val (.ref r2), .unset] [(.ref r2)])) rfl rfl (hb hby d2_37)
  obtain ⟨T6, X6, e6, st6⟩ := getF X5 hx hZ hown (host := "") (Or.inl (hw _ (List.mem_of_getElem? (i := 38) rfl))) Via.refl e5 P6 (g := (mkF m 49 #[.val (.ref r1), .val (.ref r2), .unset] [(.ref r1)])) rfl rfl (hb hby d2_49)
  obtain ⟨T7, X7, e7, st7⟩ := getF X6 hx hZ hown (host := "") (Or.inl (hw _ (List.mem_of_getElem? (i := 38) rfl))) Via.refl e6 P7 (g := (mkF m 56 #[.val (.ref r1), .val (.ref r2), .unset] [(.ref r2)])) rfl rfl (hb hby d2_56)
  obtain ⟨T8, X8, e8, st8⟩ := getF X7 hx hZ hown (host := "") (Or.inl (hw _ (List.mem_of_getElem? (i := 38) rfl))) Via.refl e7 P6 (g := (mkF m 63 #[.val (.ref r1), .val (.ref r2), .unset] [(.ref r1)])) rfl rfl (hb hby d2_63)
  obtain ⟨fs, hr, hrun, hended, hW, hsame⟩ := X8.leave (v := (some (.int (0 : Int32)))) (fun h => by rw [Bd.returns] at h; cases h)
  refine ⟨_, _, pre0 _ ?_, hrun, hended, _, _, rfl, ?_, ⟨_, rfl⟩, hW, hsame.mono (by decide) (by decide)⟩
  · show Steps p.tables e below (s₁.setTop (mkF m 0 #[.val (.ref r1), .val (.ref r2), .unset] [])) _
    refine XS.aloadN X0.here hx rfl (hb hby d2_0) rfl rfl ?_
    show Steps p.tables e below (s₁.setTop (mkF m 1 #[.val (.ref r1), .val (.ref r2), .unset] [(.ref r1)])) _
    refine st1 _ ?_
    show Steps p.tables e below (T1.setTop (mkF m 4 #[.val (.ref r1), .val (.ref r2), .unset] [(.int (0 : Int32))])) _
    refine XS.ifNo X1.here hx rfl (hb hby d2_4) rfl (by decide) ?_
    show Steps p.tables e below (T1.setTop (mkF m 7 #[.val (.ref r1), .val (.ref r2), .unset] [])) _
    refine XS.aloadN X1.here hx rfl (hb hby d2_7) rfl rfl ?_
    show Steps p.tables e below (T1.setTop (mkF m 8 #[.val (.ref r1), .val (.ref r2), .unset] [(.ref r2)])) _
    refine st2 _ ?_
    show Steps p.tables e below (T2.setTop (mkF m 11 #[.val (.ref r1), .val (.ref r2), .unset] [(.int (0 : Int32))])) _
    refine XS.ifYes X2.here hx rfl (pc0 := 11) (pc' := 19) rfl (hb hby d2_11) rfl (by decide) (by decide) (by decide) ?_
    show Steps p.tables e below (T2.setTop (mkF m 19 #[.val (.ref r1), .val (.ref r2), .unset] [])) _
    refine XS.aloadN X2.here hx rfl (hb hby d2_19) rfl rfl ?_
    show Steps p.tables e below (T2.setTop (mkF m 20 #[.val (.ref r1), .val (.ref r2), .unset] [(.ref r1)])) _
    refine XS.aloadN X2.here hx rfl (hb hby d2_20) rfl rfl ?_
    show Steps p.tables e below (T2.setTop (mkF m 21 #[.val (.ref r1), .val (.ref r2), .unset] [(.ref r2), (.ref r1)])) _
    refine Jvm.RoadKit.acmp (g := (mkF m 21 #[.val (.ref r1), .val (.ref r2), .unset] [(.ref r2), (.ref r1)])) X2 hx rfl rfl rfl (pc0 := 21) (pc' := 29) (same := false) rfl (hb hby d2_21) rfl (decide_eq_false fun q => nz3 (Value.ref.inj q)) (by decide) (by decide) ?_
    show Steps p.tables e below (T2.setTop (mkF m 29 #[.val (.ref r1), .val (.ref r2), .unset] [])) _
    refine XS.aloadN X2.here hx rfl (hb hby d2_29) rfl rfl ?_
    show Steps p.tables e below (T2.setTop (mkF m 30 #[.val (.ref r1), .val (.ref r2), .unset] [(.ref r1)])) _
    refine st4 _ ?_
    show Steps p.tables e below (T4.setTop (mkF m 33 #[.val (.ref r1), .val (.ref r2), .unset] [(.int (0 : Int32))])) _
    refine XS.ifNo X4.here hx rfl (hb hby d2_33) rfl (by decide) ?_
    show Steps p.tables e below (T4.setTop (mkF m 36 #[.val (.ref r1), .val (.ref r2), .unset] [])) _
    refine XS.aloadN X4.here hx rfl (hb hby d2_36) rfl rfl ?_
    show Steps p.tables e below (T4.setTop (mkF m 37 #[.val (.ref r1), .val (.ref r2), .unset] [(.ref r2)])) _
    refine st5 _ ?_
    show Steps p.tables e below (T5.setTop (mkF m 40 #[.val (.ref r1), .val (.ref r2), .unset] [(.int (0 : Int32))])) _
    refine XS.ifYes X5.here hx rfl (pc0 := 40) (pc' := 48) rfl (hb hby d2_40) rfl (by decide) (by decide) (by decide) ?_
    show Steps p.tables e below (T5.setTop (mkF m 48 #[.val (.ref r1), .val (.ref r2), .unset] [])) _
    refine XS.aloadN X5.here hx rfl (hb hby d2_48) rfl rfl ?_
    show Steps p.tables e below (T5.setTop (mkF m 49 #[.val (.ref r1), .val (.ref r2), .unset] [(.ref r1)])) _
    refine st6 _ ?_
    show Steps p.tables e below (T6.setTop (mkF m 52 #[.val (.ref r1), .val (.ref r2), .unset] [(.int (0 : Int32))])) _
    refine XS.ifNo X6.here hx rfl (hb hby d2_52) rfl (by decide) ?_
    show Steps p.tables e below (T6.setTop (mkF m 55 #[.val (.ref r1), .val (.ref r2), .unset] [])) _
    refine XS.aloadN X6.here hx rfl (hb hby d2_55) rfl rfl ?_
    show Steps p.tables e below (T6.setTop (mkF m 56 #[.val (.ref r1), .val (.ref r2), .unset] [(.ref r2)])) _
    refine st7 _ ?_
    show Steps p.tables e below (T7.setTop (mkF m 59 #[.val (.ref r1), .val (.ref r2), .unset] [(.int (1 : Int32))])) _
    refine XS.ifNo X7.here hx rfl (hb hby d2_59) rfl (by decide) ?_
    show Steps p.tables e below (T7.setTop (mkF m 62 #[.val (.ref r1), .val (.ref r2), .unset] [])) _
    refine XS.aloadN X7.here hx rfl (hb hby d2_62) rfl rfl ?_
    show Steps p.tables e below (T7.setTop (mkF m 63 #[.val (.ref r1), .val (.ref r2), .unset] [(.ref r1)])) _
    refine st8 _ ?_
    show Steps p.tables e below (T8.setTop (mkF m 66 #[.val (.ref r1), .val (.ref r2), .unset] [(.int (0 : Int32))])) _
    refine XS.ifYes X8.here hx rfl (pc0 := 66) (pc' := 94) rfl (hb hby d2_66) rfl (by decide) (by decide) (by decide) ?_
    show Steps p.tables e below (T8.setTop (mkF m 94 #[.val (.ref r1), .val (.ref r2), .unset] [])) _
    refine XS.iconst X8.here hx rfl (hb hby d2_94) ?_
    show Steps p.tables e below (T8.setTop (mkF m 95 #[.val (.ref r1), .val (.ref r2), .unset] [(.int (0 : Int32))])) _
    refine XS.istoreN X8.here hx rfl (hb hby d2_95) rfl (l' := #[.val (.ref r1), .val (.ref r2), .val (.int (0 : Int32))]) rfl ?_
    show Steps p.tables e below (T8.setTop (mkF m 96 #[.val (.ref r1), .val (.ref r2), .val (.int (0 : Int32))] [])) _
    refine XS.goto X8.here hx rfl (pc0 := 96) (pc' := 147) rfl (hb hby d2_96) (by decide) (by decide) ?_
    show Steps p.tables e below (T8.setTop (mkF m 147 #[.val (.ref r1), .val (.ref r2), .val (.int (0 : Int32))] [])) _
    refine XS.iloadN X8.here hx rfl (hb hby d2_147) rfl ?_
    show Steps p.tables e below (T8.setTop (mkF m 148 #[.val (.ref r1), .val (.ref r2), .val (.int (0 : Int32))] [(.int (0 : Int32))])) _
    exact retN X8 hx (t := .boolean) Bd.returns (by simp) (hb hby d2_148) hr
  · show own_QP (some (.int (0 : Int32))) n0 h0 _ T8.heap _
    rw [e8]
    exact ⟨rfl, N0, rfl⟩
set_option maxRecDepth 65536 in
set_option maxHeartbeats 40000000 in
theorem rm2_7 (l : Launch) (Z : State) (a0 : Array Value) (hw : ∀ d ∈ tables_1, d.before a0 Z = true) (r1 : Addr) (r2 : Addr) (h0 : Heap) (n0 : Nat) (O0 : Old Z n0 h0) (P1 : Fld Z h0 r1 "com/example/key_warden/keywarden/engine/LockMode" "insertIntention" "Z" (.int (0 : Int32))) (P2 : Fld Z h0 r2 "com/example/key_warden/keywarden/engine/LockMode" "insertIntention" "Z" (.int (0 : Int32))) (P3 : r1 ≠ r2) (P4 : Fld Z h0 r1 "com/example/key_warden/keywarden/engine/LockMode" "keyLock" "Z" (.int (0 : Int32))) (P5 : Fld Z h0 r2 "com/example/key_warden/keywarden/engine/LockMode" "keyLock" "Z" (.int (0 : Int32))) (P6 : Fld Z h0 r1 "com/example/key_warden/keywarden/engine/LockMode" "intention" "Z" (.int (0 : Int32))) (P7 : Fld Z h0 r2 "com/example/key_warden/keywarden/engine/LockMode" "intention" "Z" (.int (0 : Int32))) (P8 : Fld Z h0 r1 "com/example/key_warden/keywarden/engine/LockMode" "shared" "Z" (.int (0 : Int32))) (P9 : Fld Z h0 r1 "com/example/key_warden/keywarden/engine/LockMode" "coversTarget" "Z" (.int (1 : Int32))) (P10 : Fld Z h0 r1 "com/example/key_warden/keywarden/engine/LockMode" "coversGap" "Z" (.int (1 : Int32))) :
    MetFree l (⟨"com/example/key_warden/keywarden/engine/LockMode", "covers", "(Lcom/example/key_warden/keywarden/engine/LockMode;)Z"⟩ : MethodName) (head1 [Jvm.Cond.code (⟨"com/example/key_warden/keywarden/engine/LockMode", "covers", "(Lcom/example/key_warden/keywarden/engine/LockMode;)Z"⟩ : MethodName) prog_26_method_7_code 3 (some .boolean)] ({ frames := 0, cells := 0, slots := 0, locals := 0 } : Room)) (fun a U => a = #[(.ref r1), (.ref r2)] ∧ Z.Warmed39 U.vm ∧ U.heap = h0) (fun _ _ _ _ _ => True) (fun _ U o U' => ∃ v L, o = .returned v ∧ own_QP (some (.int (1 : Int32))) n0 h0 v U'.heap L ∧ FrameEnd U o U' L ({ frames := 0, cells := 0, slots := 0, locals := 0 } : Room).cells ({ frames := 0, cells := 0, slots := 0, locals := 0 } : Room).slots) := by
  refine MetFree.of_bodySF (plainFor_of_name pn_7) hisR ?_
  intro p e s m args below meth c s₁ Bd hml0 hP hK
  obtain ⟨rfl, hZ, hh⟩ := hP
  have hx := Bd.exec
  have hby := Bd.bytes
  have hml : c.maxLocals = 3 := hml0
  have hown : s.vm.findClass "com/example/key_warden/keywarden/engine/LockMode" = some m.cls := findClass_of_methodNamed Bd.named
  have hnm := (name_of_methodNamed Bd.named Bd.method).1
  have X0 : Stand p l e ({ frames := 0, cells := 0, slots := 0, locals := 0 } : Room) s m #[(.ref r1), (.ref r2)] below meth c s₁ [] 0 0 := Stand.of_body Bd
  have e0 : s₁.heap = h0 := by rw [← hh, Bd.state]; rfl
  have N0 := Fr.nil n0
  have pre0 : ∀ t, Steps p.tables e below (s₁.setTop (mkF m 0 #[.val (.ref r1), .val (.ref r2), .unset] [])) t → Steps p.tables e below (s₁.setTop (entryFrame m #[(.ref r1), (.ref r2)] 3)) t := fun t k => castTop (ef_2_RR m r1 r2) k
  obtain ⟨T1, X1, e1, st1⟩ := getF X0 hx hZ hown (host := "") (Or.inl (hw _ (List.mem_of_getElem? (i := 34) rfl))) Via.refl e0 P1 (g := (mkF m 1 #[.val (.ref r1), .val (.ref r2), .unset] [(.ref r1)])) rfl rfl (hb hby d2_1)
  obtain ⟨T2, X2, e2, st2⟩ := getF X1 hx hZ hown (host := "") (Or.inl (hw _ (List.mem_of_getElem? (i := 34) rfl))) Via.refl e1 P2 (g := (mkF m 8 #[.val (.ref r1), .val (.ref r2), .unset] [(.ref r2)])) rfl rfl (hb hby d2_8)
  have nz3 : r1 ≠ r2 := P3
  obtain ⟨T4, X4, e4, st4⟩ := getF X2 hx hZ hown (host := "") (Or.inl (hw _ (List.mem_of_getElem? (i := 36) rfl))) Via.refl e2 P4 (g := (mkF m 30 #[.val (.ref r1), .val (.ref r2), .unset] [(.ref r1)])) rfl rfl (hb hby d2_30)
  obtain ⟨T5, X5, e5, st5⟩ := getF X4 hx hZ hown (host := "") (Or.inl (hw _ (List.mem_of_getElem? (i := 36) rfl))) Via.refl e4 P5 (g := (mkF m 37 #[.val (.ref r1), .val (.ref r2), .unset] [(.ref r2)])) rfl rfl (hb hby d2_37)
  obtain ⟨T6, X6, e6, st6⟩ := getF X5 hx hZ hown (host := "") (Or.inl (hw _ (List.mem_of_getElem? (i := 38) rfl))) Via.refl e5 P6 (g := (mkF m 49 #[.val (.ref r1), .val (.ref r2), .unset] [(.ref r1)])) rfl rfl (hb hby d2_49)
  obtain ⟨T7, X7, e7, st7⟩ := getF X6 hx hZ hown (host := "") (Or.inl (hw _ (List.mem_of_getElem? (i := 38) rfl))) Via.refl e6 P7 (g := (mkF m 56 #[.val (.ref r1), .val (.ref r2), .unset] [(.ref r2)])) rfl rfl (hb hby d2_56)
  obtain ⟨T8, X8, e8, st8⟩ := getF X7 hx hZ hown (host := "") (Or.inl (hw _ (List.mem_of_getElem? (i := 44) rfl))) Via.refl e7 P8 (g := (mkF m 100 #[.val (.ref r1), .val (.ref r2), .unset] [(.ref r1)])) rfl rfl (hb hby d2_100)
  obtain ⟨T9, X9, e9, st9⟩ := getF X8 hx hZ hown (host := "") (Or.inl (hw _ (List.mem_of_getElem? (i := 46) rfl))) Via.refl e8 P9 (g := (mkF m 114 #[.val (.ref r1), .val (.ref r2), .unset] [(.ref r1)])) rfl rfl (hb hby d2_114)
  obtain ⟨T10, X10, e10, st10⟩ := getF X9 hx hZ hown (host := "") (Or.inl (hw _ (List.mem_of_getElem? (i := 48) rfl))) Via.refl e9 P10 (g := (mkF m 128 #[.val (.ref r1), .val (.ref r2), .unset] [(.ref r1)])) rfl rfl (hb hby d2_128)
  obtain ⟨fs, hr, hrun, hended, hW, hsame⟩ := X10.leave (v := (some (.int (1 : Int32)))) (fun h => by rw [Bd.returns] at h; cases h)
  refine ⟨_, _, pre0 _ ?_, hrun, hended, _, _, rfl, ?_, ⟨_, rfl⟩, hW, hsame.mono (by decide) (by decide)⟩
  · show Steps p.tables e below (s₁.setTop (mkF m 0 #[.val (.ref r1), .val (.ref r2), .unset] [])) _
    refine XS.aloadN X0.here hx rfl (hb hby d2_0) rfl rfl ?_
    show Steps p.tables e below (s₁.setTop (mkF m 1 #[.val (.ref r1), .val (.ref r2), .unset] [(.ref r1)])) _
    refine st1 _ ?_
    show Steps p.tables e below (T1.setTop (mkF m 4 #[.val (.ref r1), .val (.ref r2), .unset] [(.int (0 : Int32))])) _
    refine XS.ifNo X1.here hx rfl (hb hby d2_4) rfl (by decide) ?_
    show Steps p.tables e below (T1.setTop (mkF m 7 #[.val (.ref r1), .val (.ref r2), .unset] [])) _
    refine XS.aloadN X1.here hx rfl (hb hby d2_7) rfl rfl ?_
    show Steps p.tables e below (T1.setTop (mkF m 8 #[.val (.ref r1), .val (.ref r2), .unset] [(.ref r2)])) _
    refine st2 _ ?_
    show Steps p.tables e below (T2.setTop (mkF m 11 #[.val (.ref r1), .val (.ref r2), .unset] [(.int (0 : Int32))])) _
    refine XS.ifYes X2.here hx rfl (pc0 := 11) (pc' := 19) rfl (hb hby d2_11) rfl (by decide) (by decide) (by decide) ?_
    show Steps p.tables e below (T2.setTop (mkF m 19 #[.val (.ref r1), .val (.ref r2), .unset] [])) _
    refine XS.aloadN X2.here hx rfl (hb hby d2_19) rfl rfl ?_
    show Steps p.tables e below (T2.setTop (mkF m 20 #[.val (.ref r1), .val (.ref r2), .unset] [(.ref r1)])) _
    refine XS.aloadN X2.here hx rfl (hb hby d2_20) rfl rfl ?_
    show Steps p.tables e below (T2.setTop (mkF m 21 #[.val (.ref r1), .val (.ref r2), .unset] [(.ref r2), (.ref r1)])) _
    refine Jvm.RoadKit.acmp (g := (mkF m 21 #[.val (.ref r1), .val (.ref r2), .unset] [(.ref r2), (.ref r1)])) X2 hx rfl rfl rfl (pc0 := 21) (pc' := 29) (same := false) rfl (hb hby d2_21) rfl (decide_eq_false fun q => nz3 (Value.ref.inj q)) (by decide) (by decide) ?_
    show Steps p.tables e below (T2.setTop (mkF m 29 #[.val (.ref r1), .val (.ref r2), .unset] [])) _
    refine XS.aloadN X2.here hx rfl (hb hby d2_29) rfl rfl ?_
    show Steps p.tables e below (T2.setTop (mkF m 30 #[.val (.ref r1), .val (.ref r2), .unset] [(.ref r1)])) _
    refine st4 _ ?_
    show Steps p.tables e below (T4.setTop (mkF m 33 #[.val (.ref r1), .val (.ref r2), .unset] [(.int (0 : Int32))])) _
    refine XS.ifNo X4.here hx rfl (hb hby d2_33) rfl (by decide) ?_
    show Steps p.tables e below (T4.setTop (mkF m 36 #[.val (.ref r1), .val (.ref r2), .unset] [])) _
    refine XS.aloadN X4.here hx rfl (hb hby d2_36) rfl rfl ?_
    show Steps p.tables e below (T4.setTop (mkF m 37 #[.val (.ref r1), .val (.ref r2), .unset] [(.ref r2)])) _
    refine st5 _ ?_
    show Steps p.tables e below (T5.setTop (mkF m 40 #[.val (.ref r1), .val (.ref r2), .unset] [(.int (0 : Int32))])) _
    refine XS.ifYes X5.here hx rfl (pc0 := 40) (pc' := 48) rfl (hb hby d2_40) rfl (by decide) (by decide) (by decide) ?_
    show Steps p.tables e below (T5.setTop (mkF m 48 #[.val (.ref r1), .val (.ref r2), .unset] [])) _
    refine XS.aloadN X5.here hx rfl (hb hby d2_48) rfl rfl ?_
    show Steps p.tables e below (T5.setTop (mkF m 49 #[.val (.ref r1), .val (.ref r2), .unset] [(.ref r1)])) _
    refine st6 _ ?_
    show Steps p.tables e below (T6.setTop (mkF m 52 #[.val (.ref r1), .val (.ref r2), .unset] [(.int (0 : Int32))])) _
    refine XS.ifNo X6.here hx rfl (hb hby d2_52) rfl (by decide) ?_
    show Steps p.tables e below (T6.setTop (mkF m 55 #[.val (.ref r1), .val (.ref r2), .unset] [])) _
    refine XS.aloadN X6.here hx rfl (hb hby d2_55) rfl rfl ?_
    show Steps p.tables e below (T6.setTop (mkF m 56 #[.val (.ref r1), .val (.ref r2), .unset] [(.ref r2)])) _
    refine st7 _ ?_
    show Steps p.tables e below (T7.setTop (mkF m 59 #[.val (.ref r1), .val (.ref r2), .unset] [(.int (0 : Int32))])) _
    refine XS.ifYes X7.here hx rfl (pc0 := 59) (pc' := 99) rfl (hb hby d2_59) rfl (by decide) (by decide) (by decide) ?_
    show Steps p.tables e below (T7.setTop (mkF m 99 #[.val (.ref r1), .val (.ref r2), .unset] [])) _
    refine XS.aloadN X7.here hx rfl (hb hby d2_99) rfl rfl ?_
    show Steps p.tables e below (T7.setTop (mkF m 100 #[.val (.ref r1), .val (.ref r2), .unset] [(.ref r1)])) _
    refine st8 _ ?_
    show Steps p.tables e below (T8.setTop (mkF m 103 #[.val (.ref r1), .val (.ref r2), .unset] [(.int (0 : Int32))])) _
    refine XS.ifYes X8.here hx rfl (pc0 := 103) (pc' := 113) rfl (hb hby d2_103) rfl (by decide) (by decide) (by decide) ?_
    show Steps p.tables e below (T8.setTop (mkF m 113 #[.val (.ref r1), .val (.ref r2), .unset] [])) _
    refine XS.aloadN X8.here hx rfl (hb hby d2_113) rfl rfl ?_
    show Steps p.tables e below (T8.setTop (mkF m 114 #[.val (.ref r1), .val (.ref r2), .unset] [(.ref r1)])) _
    refine st9 _ ?_
    show Steps p.tables e below (T9.setTop (mkF m 117 #[.val (.ref r1), .val (.ref r2), .unset] [(.int (1 : Int32))])) _
    refine XS.ifYes X9.here hx rfl (pc0 := 117) (pc' := 127) rfl (hb hby d2_117) rfl (by decide) (by decide) (by decide) ?_
    show Steps p.tables e below (T9.setTop (mkF m 127 #[.val (.ref r1), .val (.ref r2), .unset] [])) _
    refine XS.aloadN X9.here hx rfl (hb hby d2_127) rfl rfl ?_
    show Steps p.tables e below (T9.setTop (mkF m 128 #[.val (.ref r1), .val (.ref r2), .unset] [(.ref r1)])) _
    refine st10 _ ?_
    show Steps p.tables e below (T10.setTop (mkF m 131 #[.val (.ref r1), .val (.ref r2), .unset] [(.int (1 : Int32))])) _
    refine XS.ifYes X10.here hx rfl (pc0 := 131) (pc' := 141) rfl (hb hby d2_131) rfl (by decide) (by decide) (by decide) ?_
    show Steps p.tables e below (T10.setTop (mkF m 141 #[.val (.ref r1), .val (.ref r2), .unset] [])) _
    refine XS.iconst X10.here hx rfl (hb hby d2_141) ?_
    show Steps p.tables e below (T10.setTop (mkF m 142 #[.val (.ref r1), .val (.ref r2), .unset] [(.int (1 : Int32))])) _
    refine XS.goto X10.here hx rfl (pc0 := 142) (pc' := 146) rfl (hb hby d2_142) (by decide) (by decide) ?_
    show Steps p.tables e below (T10.setTop (mkF m 146 #[.val (.ref r1), .val (.ref r2), .unset] [(.int (1 : Int32))])) _
    refine XS.istoreN X10.here hx rfl (hb hby d2_146) rfl (l' := #[.val (.ref r1), .val (.ref r2), .val (.int (1 : Int32))]) rfl ?_
    show Steps p.tables e below (T10.setTop (mkF m 147 #[.val (.ref r1), .val (.ref r2), .val (.int (1 : Int32))] [])) _
    refine XS.iloadN X10.here hx rfl (hb hby d2_147) rfl ?_
    show Steps p.tables e below (T10.setTop (mkF m 148 #[.val (.ref r1), .val (.ref r2), .val (.int (1 : Int32))] [(.int (1 : Int32))])) _
    exact retN X10 hx (t := .boolean) Bd.returns (by simp) (hb hby d2_148) hr
  · show own_QP (some (.int (1 : Int32))) n0 h0 _ T10.heap _
    rw [e10]
    exact ⟨rfl, N0, rfl⟩
set_option maxRecDepth 65536 in
set_option maxHeartbeats 40000000 in
theorem rm2_8 (l : Launch) (Z : State) (a0 : Array Value) (hw : ∀ d ∈ tables_1, d.before a0 Z = true) (r1 : Addr) (r2 : Addr) (h0 : Heap) (n0 : Nat) (O0 : Old Z n0 h0) (P1 : Fld Z h0 r1 "com/example/key_warden/keywarden/engine/LockMode" "insertIntention" "Z" (.int (0 : Int32))) (P2 : Fld Z h0 r2 "com/example/key_warden/keywarden/engine/LockMode" "insertIntention" "Z" (.int (0 : Int32))) (P3 : r1 ≠ r2) (P4 : Fld Z h0 r1 "com/example/key_warden/keywarden/engine/LockMode" "keyLock" "Z" (.int (0 : Int32))) (P5 : Fld Z h0 r2 "com/example/key_warden/keywarden/engine/LockMode" "keyLock" "Z" (.int (0 : Int32))) (P6 : Fld Z h0 r1 "com/example/key_warden/keywarden/engine/LockMode" "intention" "Z" (.int (0 : Int32))) (P7 : Fld Z h0 r2 "com/example/key_warden/keywarden/engine/LockMode" "intention" "Z" (.int (0 : Int32))) (P8 : Fld Z h0 r1 "com/example/key_warden/keywarden/engine/LockMode" "shared" "Z" (.int (0 : Int32))) (P9 : Fld Z h0 r1 "com/example/key_warden/keywarden/engine/LockMode" "coversTarget" "Z" (.int (1 : Int32))) (P10 : Fld Z h0 r1 "com/example/key_warden/keywarden/engine/LockMode" "coversGap" "Z" (.int (0 : Int32))) (P11 : Fld Z h0 r2 "com/example/key_warden/keywarden/engine/LockMode" "coversGap" "Z" (.int (1 : Int32))) :
    MetFree l (⟨"com/example/key_warden/keywarden/engine/LockMode", "covers", "(Lcom/example/key_warden/keywarden/engine/LockMode;)Z"⟩ : MethodName) (head1 [Jvm.Cond.code (⟨"com/example/key_warden/keywarden/engine/LockMode", "covers", "(Lcom/example/key_warden/keywarden/engine/LockMode;)Z"⟩ : MethodName) prog_26_method_7_code 3 (some .boolean)] ({ frames := 0, cells := 0, slots := 0, locals := 0 } : Room)) (fun a U => a = #[(.ref r1), (.ref r2)] ∧ Z.Warmed39 U.vm ∧ U.heap = h0) (fun _ _ _ _ _ => True) (fun _ U o U' => ∃ v L, o = .returned v ∧ own_QP (some (.int (0 : Int32))) n0 h0 v U'.heap L ∧ FrameEnd U o U' L ({ frames := 0, cells := 0, slots := 0, locals := 0 } : Room).cells ({ frames := 0, cells := 0, slots := 0, locals := 0 } : Room).slots) := by
  refine MetFree.of_bodySF (plainFor_of_name pn_7) hisR ?_
  intro p e s m args below meth c s₁ Bd hml0 hP hK
  obtain ⟨rfl, hZ, hh⟩ := hP
  have hx := Bd.exec
  have hby := Bd.bytes
  have hml : c.maxLocals = 3 := hml0
  have hown : s.vm.findClass "com/example/key_warden/keywarden/engine/LockMode" = some m.cls := findClass_of_methodNamed Bd.named
  have hnm := (name_of_methodNamed Bd.named Bd.method).1
  have X0 : Stand p l e ({ frames := 0, cells := 0, slots := 0, locals := 0 } : Room) s m #[(.ref r1), (.ref r2)] below meth c s₁ [] 0 0 := Stand.of_body Bd
  have e0 : s₁.heap = h0 := by rw [← hh, Bd.state]; rfl
  have N0 := Fr.nil n0
  have pre0 : ∀ t, Steps p.tables e below (s₁.setTop (mkF m 0 #[.val (.ref r1), .val (.ref r2), .unset] [])) t → Steps p.tables e below (s₁.setTop (entryFrame m #[(.ref r1), (.ref r2)] 3)) t := fun t k => castTop (ef_2_RR m r1 r2) k
  obtain ⟨T1, X1, e1, st1⟩ := getF X0 hx hZ hown (host := "") (Or.inl (hw _ (List.mem_of_getElem? (i := 34) rfl))) Via.refl e0 P1 (g := (mkF m 1 #[.val (.ref r1), .val (.ref r2), .unset] [(.ref r1)])) rfl rfl (hb hby d2_1)
  obtain ⟨T2, X2, e2, st2⟩ := getF X1 hx hZ hown (host := "") (Or.inl (hw _ (List.mem_of_getElem? (i := 34) rfl))) Via.refl e1 P2 (g := (mkF m 8 #[.val (.ref r1), .val (.ref r2), .unset] [(.ref r2)])) rfl rfl (hb hby d2_8)
  have nz3 : r1 ≠ r2 := P3
  obtain ⟨T4, X4, e4, st4⟩ := getF X2 hx hZ hown (host := "") (Or.inl (hw _ (List.mem_of_getElem? (i := 36) rfl))) Via.refl e2 P4 (g := (mkF m 30 #[.val (.ref r1), .val (.ref r2), .unset] [(.ref r1)])) rfl rfl (hb hby d2_30)
  obtain ⟨T5, X5, e5, st5⟩ := getF X4 hx hZ hown (host := "") (Or.inl (hw _ (List.mem_of_getElem? (i := 36) rfl))) Via.refl e4 P5 (g := (mkF m 37 #[.val (.ref r1), .val (.ref r2), .unset] [(.ref r2)])) rfl rfl (hb hby d2_37)
  obtain ⟨T6, X6, e6, st6⟩ := getF X5 hx hZ hown (host := "") (Or.inl (hw _ (List.mem_of_getElem? (i := 38) rfl))) Via.refl e5 P6 (g := (mkF m 49 #[.val (.ref r1), .val (.ref r2), .unset] [(.ref r1)])) rfl rfl (hb hby d2_49)
  obtain ⟨T7, X7, e7, st7⟩ := getF X6 hx hZ hown (host := "") (Or.inl (hw _ (List.mem_of_getElem? (i := 38) rfl))) Via.refl e6 P7 (g := (mkF m 56 #[.val (.ref r1), .val (.ref r2), .unset] [(.ref r2)])) rfl rfl (hb hby d2_56)
  obtain ⟨T8, X8, e8, st8⟩ := getF X7 hx hZ hown (host := "") (Or.inl (hw _ (List.mem_of_getElem? (i := 44) rfl))) Via.refl e7 P8 (g := (mkF m 100 #[.val (.ref r1), .val (.ref r2), .unset] [(.ref r1)])) rfl rfl (hb hby d2_100)
  obtain ⟨T9, X9, e9, st9⟩ := getF X8 hx hZ hown (host := "") (Or.inl (hw _ (List.mem_of_getElem? (i := 46) rfl))) Via.refl e8 P9 (g := (mkF m 114 #[.val (.ref r1), .val (.ref r2), .unset] [(.ref r1)])) rfl rfl (hb hby d2_114)
  obtain ⟨T10, X10, e10, st10⟩ := getF X9 hx hZ hown (host := "") (Or.inl (hw _ (List.mem_of_getElem? (i := 48) rfl))) Via.refl e9 P10 (g := (mkF m 128 #[.val (.ref r1), .val (.ref r2), .unset] [(.ref r1)])) rfl rfl (hb hby d2_128)
  obtain ⟨T11, X11, e11, st11⟩ := getF X10 hx hZ hown (host := "") (Or.inl (hw _ (List.mem_of_getElem? (i := 48) rfl))) Via.refl e10 P11 (g := (mkF m 135 #[.val (.ref r1), .val (.ref r2), .unset] [(.ref r2)])) rfl rfl (hb hby d2_135)
  obtain ⟨fs, hr, hrun, hended, hW, hsame⟩ := X11.leave (v := (some (.int (0 : Int32)))) (fun h => by rw [Bd.returns] at h; cases h)
  refine ⟨_, _, pre0 _ ?_, hrun, hended, _, _, rfl, ?_, ⟨_, rfl⟩, hW, hsame.mono (by decide) (by decide)⟩
  · show Steps p.tables e below (s₁.setTop (mkF m 0 #[.val (.ref r1), .val (.ref r2), .unset] [])) _
    refine XS.aloadN X0.here hx rfl (hb hby d2_0) rfl rfl ?_
    show Steps p.tables e below (s₁.setTop (mkF m 1 #[.val (.ref r1), .val (.ref r2), .unset] [(.ref r1)])) _
    refine st1 _ ?_
    show Steps p.tables e below (T1.setTop (mkF m 4 #[.val (.ref r1), .val (.ref r2), .unset] [(.int (0 : Int32))])) _
    refine XS.ifNo X1.here hx rfl (hb hby d2_4) rfl (by decide) ?_
    show Steps p.tables e below (T1.setTop (mkF m 7 #[.val (.ref r1), .val (.ref r2), .unset] [])) _
    refine XS.aloadN X1.here hx rfl (hb hby d2_7) rfl rfl ?_
    show Steps p.tables e below (T1.setTop (mkF m 8 #[.val (.ref r1), .val (.ref r2), .unset] [(.ref r2)])) _
    refine st2 _ ?_
    show Steps p.tables e below (T2.setTop (mkF m 11 #[.val (.ref r1), .val (.ref r2), .unset] [(.int (0 : Int32))])) _
    refine XS.ifYes X2.here hx rfl (pc0 := 11) (pc' := 19) rfl (hb hby d2_11) rfl (by decide) (by decide) (by decide) ?_
    show Steps p.tables e below (T2.setTop (mkF m 19 #[.val (.ref r1), .val (.ref r2), .unset] [])) _
    refine XS.aloadN X2.here hx rfl (hb hby d2_19) rfl rfl ?_
    show Steps p.tables e below (T2.setTop (mkF m 20 #[.val (.ref r1), .val (.ref r2), .unset] [(.ref r1)])) _
    refine XS.aloadN X2.here hx rfl (hb hby d2_20) rfl rfl ?_
    show Steps p.tables e below (T2.setTop (mkF m 21 #[.val (.ref r1), .val (.ref r2), .unset] [(.ref r2), (.ref r1)])) _
    refine Jvm.RoadKit.acmp (g := (mkF m 21 #[.val (.ref r1), .val (.ref r2), .unset] [(.ref r2), (.ref r1)])) X2 hx rfl rfl rfl (pc0 := 21) (pc' := 29) (same := false) rfl (hb hby d2_21) rfl (decide_eq_false fun q => nz3 (Value.ref.inj q)) (by decide) (by decide) ?_
    show Steps p.tables e below (T2.setTop (mkF m 29 #[.val (.ref r1), .val (.ref r2), .unset] [])) _
    refine XS.aloadN X2.here hx rfl (hb hby d2_29) rfl rfl ?_
    show Steps p.tables e below (T2.setTop (mkF m 30 #[.val (.ref r1), .val (.ref r2), .unset] [(.ref r1)])) _
    refine st4 _ ?_
    show Steps p.tables e below (T4.setTop (mkF m 33 #[.val (.ref r1), .val (.ref r2), .unset] [(.int (0 : Int32))])) _
    refine XS.ifNo X4.here hx rfl (hb hby d2_33) rfl (by decide) ?_
    show Steps p.tables e below (T4.setTop (mkF m 36 #[.val (.ref r1), .val (.ref r2), .unset] [])) _
    refine XS.aloadN X4.here hx rfl (hb hby d2_36) rfl rfl ?_
    show Steps p.tables e below (T4.setTop (mkF m 37 #[.val (.ref r1), .val (.ref r2), .unset] [(.ref r2)])) _
    refine st5 _ ?_
    show Steps p.tables e below (T5.setTop (mkF m 40 #[.val (.ref r1), .val (.ref r2), .unset] [(.int (0 : Int32))])) _
    refine XS.ifYes X5.here hx rfl (pc0 := 40) (pc' := 48) rfl (hb hby d2_40) rfl (by decide) (by decide) (by decide) ?_
    show Steps p.tables e below (T5.setTop (mkF m 48 #[.val (.ref r1), .val (.ref r2), .unset] [])) _
    refine XS.aloadN X5.here hx rfl (hb hby d2_48) rfl rfl ?_
    show Steps p.tables e below (T5.setTop (mkF m 49 #[.val (.ref r1), .val (.ref r2), .unset] [(.ref r1)])) _
    refine st6 _ ?_
    show Steps p.tables e below (T6.setTop (mkF m 52 #[.val (.ref r1), .val (.ref r2), .unset] [(.int (0 : Int32))])) _
    refine XS.ifNo X6.here hx rfl (hb hby d2_52) rfl (by decide) ?_
    show Steps p.tables e below (T6.setTop (mkF m 55 #[.val (.ref r1), .val (.ref r2), .unset] [])) _
    refine XS.aloadN X6.here hx rfl (hb hby d2_55) rfl rfl ?_
    show Steps p.tables e below (T6.setTop (mkF m 56 #[.val (.ref r1), .val (.ref r2), .unset] [(.ref r2)])) _
    refine st7 _ ?_
    show Steps p.tables e below (T7.setTop (mkF m 59 #[.val (.ref r1), .val (.ref r2), .unset] [(.int (0 : Int32))])) _
    refine XS.ifYes X7.here hx rfl (pc0 := 59) (pc' := 99) rfl (hb hby d2_59) rfl (by decide) (by decide) (by decide) ?_
    show Steps p.tables e below (T7.setTop (mkF m 99 #[.val (.ref r1), .val (.ref r2), .unset] [])) _
    refine XS.aloadN X7.here hx rfl (hb hby d2_99) rfl rfl ?_
    show Steps p.tables e below (T7.setTop (mkF m 100 #[.val (.ref r1), .val (.ref r2), .unset] [(.ref r1)])) _
    refine st8 _ ?_
    show Steps p.tables e below (T8.setTop (mkF m 103 #[.val (.ref r1), .val (.ref r2), .unset] [(.int (0 : Int32))])) _
    refine XS.ifYes X8.here hx rfl (pc0 := 103) (pc' := 113) rfl (hb hby d2_103) rfl (by decide) (by decide) (by decide) ?_
    show Steps p.tables e below (T8.setTop (mkF m 113 #[.val (.ref r1), .val (.ref r2), .unset] [])) _
    refine XS.aloadN X8.here hx rfl (hb hby d2_113) rfl rfl ?_
    show Steps p.tables e below (T8.setTop (mkF m 114 #[.val (.ref r1), .val (.ref r2), .unset] [(.ref r1)])) _
    refine st9 _ ?_
    show Steps p.tables e below (T9.setTop (mkF m 117 #[.val (.ref r1), .val (.ref r2), .unset] [(.int (1 : Int32))])) _
    refine XS.ifYes X9.here hx rfl (pc0 := 117) (pc' := 127) rfl (hb hby d2_117) rfl (by decide) (by decide) (by decide) ?_
    show Steps p.tables e below (T9.setTop (mkF m 127 #[.val (.ref r1), .val (.ref r2), .unset] [])) _
    refine XS.aloadN X9.here hx rfl (hb hby d2_127) rfl rfl ?_
    show Steps p.tables e below (T9.setTop (mkF m 128 #[.val (.ref r1), .val (.ref r2), .unset] [(.ref r1)])) _
    refine st10 _ ?_
    show Steps p.tables e below (T10.setTop (mkF m 131 #[.val (.ref r1), .val (.ref r2), .unset] [(.int (0 : Int32))])) _
    refine XS.ifNo X10.here hx rfl (hb hby d2_131) rfl (by decide) ?_
    show Steps p.tables e below (T10.setTop (mkF m 134 #[.val (.ref r1), .val (.ref r2), .unset] [])) _
    refine XS.aloadN X10.here hx rfl (hb hby d2_134) rfl rfl ?_
    show Steps p.tables e below (T10.setTop (mkF m 135 #[.val (.ref r1), .val (.ref r2), .unset] [(.ref r2)])) _
    refine st11 _ ?_
    show Steps p.tables e below (T11.setTop (mkF m 138 #[.val (.ref r1), .val (.ref r2), .unset] [(.int (1 : Int32))])) _
    refine XS.ifYes X11.here hx rfl (pc0 := 138) (pc' := 145) rfl (hb hby d2_138) rfl (by decide) (by decide) (by decide) ?_
    show Steps p.tables e below (T11.setTop (mkF m 145 #[.val (.ref r1), .val (.ref r2), .unset] [])) _
    refine XS.iconst X11.here hx rfl (hb hby d2_145) ?_
    show Steps p.tables e below (T11.setTop (mkF m 146 #[.val (.ref r1), .val (.ref r2), .unset] [(.int (0 : Int32))])) _
    refine XS.istoreN X11.here hx rfl (hb hby d2_146) rfl (l' := #[.val (.ref r1), .val (.ref r2), .val (.int (0 : Int32))]) rfl ?_
    show Steps p.tables e below (T11.setTop (mkF m 147 #[.val (.ref r1), .val (.ref r2), .val (.int (0 : Int32))] [])) _
    refine XS.iloadN X11.here hx rfl (hb hby d2_147) rfl ?_
    show Steps p.tables e below (T11.setTop (mkF m 148 #[.val (.ref r1), .val (.ref r2), .val (.int (0 : Int32))] [(.int (0 : Int32))])) _
    exact retN X11 hx (t := .boolean) Bd.returns (by simp) (hb hby d2_148) hr
  · show own_QP (some (.int (0 : Int32))) n0 h0 _ T11.heap _
    rw [e11]
    exact ⟨rfl, N0, rfl⟩
set_option maxRecDepth 65536 in
set_option maxHeartbeats 40000000 in
theorem rm2_9 (l : Launch) (Z : State) (a0 : Array Value) (hw : ∀ d ∈ tables_1, d.before a0 Z = true) (r1 : Addr) (r2 : Addr) (h0 : Heap) (n0 : Nat) (O0 : Old Z n0 h0) (P1 : Fld Z h0 r1 "com/example/key_warden/keywarden/engine/LockMode" "insertIntention" "Z" (.int (0 : Int32))) (P2 : Fld Z h0 r2 "com/example/key_warden/keywarden/engine/LockMode" "insertIntention" "Z" (.int (0 : Int32))) (P3 : r1 ≠ r2) (P4 : Fld Z h0 r1 "com/example/key_warden/keywarden/engine/LockMode" "keyLock" "Z" (.int (0 : Int32))) (P5 : Fld Z h0 r2 "com/example/key_warden/keywarden/engine/LockMode" "keyLock" "Z" (.int (0 : Int32))) (P6 : Fld Z h0 r1 "com/example/key_warden/keywarden/engine/LockMode" "intention" "Z" (.int (0 : Int32))) (P7 : Fld Z h0 r2 "com/example/key_warden/keywarden/engine/LockMode" "intention" "Z" (.int (0 : Int32))) (P8 : Fld Z h0 r1 "com/example/key_warden/keywarden/engine/LockMode" "shared" "Z" (.int (0 : Int32))) (P9 : Fld Z h0 r1 "com/example/key_warden/keywarden/engine/LockMode" "coversTarget" "Z" (.int (1 : Int32))) (P10 : Fld Z h0 r1 "com/example/key_warden/keywarden/engine/LockMode" "coversGap" "Z" (.int (0 : Int32))) (P11 : Fld Z h0 r2 "com/example/key_warden/keywarden/engine/LockMode" "coversGap" "Z" (.int (0 : Int32))) :
    MetFree l (⟨"com/example/key_warden/keywarden/engine/LockMode", "covers", "(Lcom/example/key_warden/keywarden/engine/LockMode;)Z"⟩ : MethodName) (head1 [Jvm.Cond.code (⟨"com/example/key_warden/keywarden/engine/LockMode", "covers", "(Lcom/example/key_warden/keywarden/engine/LockMode;)Z"⟩ : MethodName) prog_26_method_7_code 3 (some .boolean)] ({ frames := 0, cells := 0, slots := 0, locals := 0 } : Room)) (fun a U => a = #[(.ref r1), (.ref r2)] ∧ Z.Warmed39 U.vm ∧ U.heap = h0) (fun _ _ _ _ _ => True) (fun _ U o U' => ∃ v L, o = .returned v ∧ own_QP (some (.int (1 : Int32))) n0 h0 v U'.heap L ∧ FrameEnd U o U' L ({ frames := 0, cells := 0, slots := 0, locals := 0 } : Room).cells ({ frames := 0, cells := 0, slots := 0, locals := 0 } : Room).slots) := by
  refine MetFree.of_bodySF (plainFor_of_name pn_7) hisR ?_
  intro p e s m args below meth c s₁ Bd hml0 hP hK
  obtain ⟨rfl, hZ, hh⟩ := hP
  have hx := Bd.exec
  have hby := Bd.bytes
  have hml : c.maxLocals = 3 := hml0
  have hown : s.vm.findClass "com/example/key_warden/keywarden/engine/LockMode" = some m.cls := findClass_of_methodNamed Bd.named
  have hnm := (name_of_methodNamed Bd.named Bd.method).1
  have X0 : Stand p l e ({ frames := 0, cells := 0, slots := 0, locals := 0 } : Room) s m #[(.ref r1), (.ref r2)] below meth c s₁ [] 0 0 := Stand.of_body Bd
  have e0 : s₁.heap = h0 := by rw [← hh, Bd.state]; rfl
  have N0 := Fr.nil n0
  have pre0 : ∀ t, Steps p.tables e below (s₁.setTop (mkF m 0 #[.val (.ref r1), .val (.ref r2), .unset] [])) t → Steps p.tables e below (s₁.setTop (entryFrame m #[(.ref r1), (.ref r2)] 3)) t := fun t k => castTop (ef_2_RR m r1 r2) k
  obtain ⟨T1, X1, e1, st1⟩ := getF X0 hx hZ hown (host := "") (Or.inl (hw _ (List.mem_of_getElem? (i := 34) rfl))) Via.refl e0 P1 (g := (mkF m 1 #[.val (.ref r1), .val (.ref r2), .unset] [(.ref r1)])) rfl rfl (hb hby d2_1)
  obtain ⟨T2, X2, e2, st2⟩ := getF X1 hx hZ hown (host := "") (Or.inl (hw _ (List.mem_of_getElem? (i := 34) rfl))) Via.refl e1 P2 (g := (mkF m 8 #[.val (.ref r1), .val (.ref r2), .unset] [(.ref r2)])) rfl rfl (hb hby d2_8)
  have nz3 : r1 ≠ r2 := P3
  obtain ⟨T4, X4, e4, st4⟩ := getF X2 hx hZ hown (host := "") (Or.inl (hw _ (List.mem_of_getElem? (i := 36) rfl))) Via.refl e2 P4 (g := (mkF m 30 #[.val (.ref r1), .val (.ref r2), .unset] [(.ref r1)])) rfl rfl (hb hby d2_30)
  obtain ⟨T5, X5, e5, st5⟩ := getF X4 hx hZ hown (host := "") (Or.inl (hw _ (List.mem_of_getElem? (i := 36) rfl))) Via.refl e4 P5 (g := (mkF m 37 #[.val (.ref r1), .val (.ref r2), .unset] [(.ref r2)])) rfl rfl (hb hby d2_37)
  obtain ⟨T6, X6, e6, st6⟩ := getF X5 hx hZ hown (host := "") (Or.inl (hw _ (List.mem_of_getElem? (i := 38) rfl))) Via.refl e5 P6 (g := (mkF m 49 #[.val (.ref r1), .val (.ref r2), .unset] [(.ref r1)])) rfl rfl (hb hby d2_49)
  obtain ⟨T7, X7, e7, st7⟩ := getF X6 hx hZ hown (host := "") (Or.inl (hw _ (List.mem_of_getElem? (i := 38) rfl))) Via.refl e6 P7 (g := (mkF m 56 #[.val (.ref r1), .val (.ref r2), .unset] [(.ref r2)])) rfl rfl (hb hby d2_56)
  obtain ⟨T8, X8, e8, st8⟩ := getF X7 hx hZ hown (host := "") (Or.inl (hw _ (List.mem_of_getElem? (i := 44) rfl))) Via.refl e7 P8 (g := (mkF m 100 #[.val (.ref r1), .val (.ref r2), .unset] [(.ref r1)])) rfl rfl (hb hby d2_100)
  obtain ⟨T9, X9, e9, st9⟩ := getF X8 hx hZ hown (host := "") (Or.inl (hw _ (List.mem_of_getElem? (i := 46) rfl))) Via.refl e8 P9 (g := (mkF m 114 #[.val (.ref r1), .val (.ref r2), .unset] [(.ref r1)])) rfl rfl (hb hby d2_114)
  obtain ⟨T10, X10, e10, st10⟩ := getF X9 hx hZ hown (host := "") (Or.inl (hw _ (List.mem_of_getElem? (i := 48) rfl))) Via.refl e9 P10 (g := (mkF m 128 #[.val (.ref r1), .val (.ref r2), .unset] [(.ref r1)])) rfl rfl (hb hby d2_128)
  obtain ⟨T11, X11, e11, st11⟩ := getF X10 hx hZ hown (host := "") (Or.inl (hw _ (List.mem_of_getElem? (i := 48) rfl))) Via.refl e10 P11 (g := (mkF m 135 #[.val (.ref r1), .val (.ref r2), .unset] [(.ref r2)])) rfl rfl (hb hby d2_135)
  obtain ⟨fs, hr, hrun, hended, hW, hsame⟩ := X11.leave (v := (some (.int (1 : Int32)))) (fun h => by rw [Bd.returns] at h; cases h)
  refine ⟨_, _, pre0 _ ?_, hrun, hended, _, _, rfl, ?_, ⟨_, rfl⟩, hW, hsame.mono (by decide) (by decide)⟩
  · show Steps p.tables e below (s₁.setTop (mkF m 0 #[.val (.ref r1), .val (.ref r2), .unset] [])) _
    refine XS.aloadN X0.here hx rfl (hb hby d2_0) rfl rfl ?_
    show Steps p.tables e below (s₁.setTop (mkF m 1 #[.val (.ref r1), .val (.ref r2), .unset] [(.ref r1)])) _
    refine st1 _ ?_
    show Steps p.tables e below (T1.setTop (mkF m 4 #[.val (.ref r1), .val (.ref r2), .unset] [(.int (0 : Int32))])) _
    refine XS.ifNo X1.here hx rfl (hb hby d2_4) rfl (by decide) ?_
    show Steps p.tables e below (T1.setTop (mkF m 7 #[.val (.ref r1), .val (.ref r2), .unset] [])) _
    refine XS.aloadN X1.here hx rfl (hb hby d2_7) rfl rfl ?_
    show Steps p.tables e below (T1.setTop (mkF m 8 #[.val (.ref r1), .val (.ref r2), .unset] [(.ref r2)])) _
    refine st2 _ ?_
    show Steps p.tables e below (T2.setTop (mkF m 11 #[.val (.ref r1), .val (.ref r2), .unset] [(.int (0 : Int32))])) _
    refine XS.ifYes X2.here hx rfl (pc0 := 11) (pc' := 19) rfl (hb hby d2_11) rfl (by decide) (by decide) (by decide) ?_
    show Steps p.tables e below (T2.setTop (mkF m 19 #[.val (.ref r1), .val (.ref r2), .unset] [])) _
    refine XS.aloadN X2.here hx rfl (hb hby d2_19) rfl rfl ?_
    show Steps p.tables e below (T2.setTop (mkF m 20 #[.val (.ref r1), .val (.ref r2), .unset] [(.ref r1)])) _
    refine XS.aloadN X2.here hx rfl (hb hby d2_20) rfl rfl ?_
    show Steps p.tables e below (T2.setTop (mkF m 21 #[.val (.ref r1), .val (.ref r2), .unset] [(.ref r2), (.ref r1)])) _
    refine Jvm.RoadKit.acmp (g := (mkF m 21 #[.val (.ref r1), .val (.ref r2), .unset] [(.ref r2), (.ref r1)])) X2 hx rfl rfl rfl (pc0 := 21) (pc' := 29) (same := false) rfl (hb hby d2_21) rfl (decide_eq_false fun q => nz3 (Value.ref.inj q)) (by decide) (by decide) ?_
    show Steps p.tables e below (T2.setTop (mkF m 29 #[.val (.ref r1), .val (.ref r2), .unset] [])) _
    refine XS.aloadN X2.here hx rfl (hb hby d2_29) rfl rfl ?_
    show Steps p.tables e below (T2.setTop (mkF m 30 #[.val (.ref r1), .val (.ref r2), .unset] [(.ref r1)])) _
    refine st4 _ ?_
    show Steps p.tables e below (T4.setTop (mkF m 33 #[.val (.ref r1), .val (.ref r2), .unset] [(.int (0 : Int32))])) _
    refine XS.ifNo X4.here hx rfl (hb hby d2_33) rfl (by decide) ?_
    show Steps p.tables e below (T4.setTop (mkF m 36 #[.val (.ref r1), .val (.ref r2), .unset] [])) _
    refine XS.aloadN X4.here hx rfl (hb hby d2_36) rfl rfl ?_
    show Steps p.tables e below (T4.setTop (mkF m 37 #[.val (.ref r1), .val (.ref r2), .unset] [(.ref r2)])) _
    refine st5 _ ?_
    show Steps p.tables e below (T5.setTop (mkF m 40 #[.val (.ref r1), .val (.ref r2), .unset] [(.int (0 : Int32))])) _
    refine XS.ifYes X5.here hx rfl (pc0 := 40) (pc' := 48) rfl (hb hby d2_40) rfl (by decide) (by decide) (by decide) ?_
    show Steps p.tables e below (T5.setTop (mkF m 48 #[.val (.ref r1), .val (.ref r2), .unset] [])) _
    refine XS.aloadN X5.here hx rfl (hb hby d2_48) rfl rfl ?_
    show Steps p.tables e below (T5.setTop (mkF m 49 #[.val (.ref r1), .val (.ref r2), .unset] [(.ref r1)])) _
    refine st6 _ ?_
    show Steps p.tables e below (T6.setTop (mkF m 52 #[.val (.ref r1), .val (.ref r2), .unset] [(.int (0 : Int32))])) _
    refine XS.ifNo X6.here hx rfl (hb hby d2_52) rfl (by decide) ?_
    show Steps p.tables e below (T6.setTop (mkF m 55 #[.val (.ref r1), .val (.ref r2), .unset] [])) _
    refine XS.aloadN X6.here hx rfl (hb hby d2_55) rfl rfl ?_
    show Steps p.tables e below (T6.setTop (mkF m 56 #[.val (.ref r1), .val (.ref r2), .unset] [(.ref r2)])) _
    refine st7 _ ?_
    show Steps p.tables e below (T7.setTop (mkF m 59 #[.val (.ref r1), .val (.ref r2), .unset] [(.int (0 : Int32))])) _
    refine XS.ifYes X7.here hx rfl (pc0 := 59) (pc' := 99) rfl (hb hby d2_59) rfl (by decide) (by decide) (by decide) ?_
    show Steps p.tables e below (T7.setTop (mkF m 99 #[.val (.ref r1), .val (.ref r2), .unset] [])) _
    refine XS.aloadN X7.here hx rfl (hb hby d2_99) rfl rfl ?_
    show Steps p.tables e below (T7.setTop (mkF m 100 #[.val (.ref r1), .val (.ref r2), .unset] [(.ref r1)])) _
    refine st8 _ ?_
    show Steps p.tables e below (T8.setTop (mkF m 103 #[.val (.ref r1), .val (.ref r2), .unset] [(.int (0 : Int32))])) _
    refine XS.ifYes X8.here hx rfl (pc0 := 103) (pc' := 113) rfl (hb hby d2_103) rfl (by decide) (by decide) (by decide) ?_
    show Steps p.tables e below (T8.setTop (mkF m 113 #[.val (.ref r1), .val (.ref r2), .unset] [])) _
    refine XS.aloadN X8.here hx rfl (hb hby d2_113) rfl rfl ?_
    show Steps p.tables e below (T8.setTop (mkF m 114 #[.val (.ref r1), .val (.ref r2), .unset] [(.ref r1)])) _
    refine st9 _ ?_
    show Steps p.tables e below (T9.setTop (mkF m 117 #[.val (.ref r1), .val (.ref r2), .unset] [(.int (1 : Int32))])) _
    refine XS.ifYes X9.here hx rfl (pc0 := 117) (pc' := 127) rfl (hb hby d2_117) rfl (by decide) (by decide) (by decide) ?_
    show Steps p.tables e below (T9.setTop (mkF m 127 #[.val (.ref r1), .val (.ref r2), .unset] [])) _
    refine XS.aloadN X9.here hx rfl (hb hby d2_127) rfl rfl ?_
    show Steps p.tables e below (T9.setTop (mkF m 128 #[.val (.ref r1), .val (.ref r2), .unset] [(.ref r1)])) _
    refine st10 _ ?_
    show Steps p.tables e below (T10.setTop (mkF m 131 #[.val (.ref r1), .val (.ref r2), .unset] [(.int (0 : Int32))])) _
    refine XS.ifNo X10.here hx rfl (hb hby d2_131) rfl (by decide) ?_
    show Steps p.tables e below (T10.setTop (mkF m 134 #[.val (.ref r1), .val (.ref r2), .unset] [])) _
    refine XS.aloadN X10.here hx rfl (hb hby d2_134) rfl rfl ?_
    show Steps p.tables e below (T10.setTop (mkF m 135 #[.val (.ref r1), .val (.ref r2), .unset] [(.ref r2)])) _
    refine st11 _ ?_
    show Steps p.tables e below (T11.setTop (mkF m 138 #[.val (.ref r1), .val (.ref r2), .unset] [(.int (0 : Int32))])) _
    refine XS.ifNo X11.here hx rfl (hb hby d2_138) rfl (by decide) ?_
    show Steps p.tables e below (T11.setTop (mkF m 141 #[.val (.ref r1), .val (.ref r2), .unset] [])) _
    refine XS.iconst X11.here hx rfl (hb hby d2_141) ?_
    show Steps p.tables e below (T11.setTop (mkF m 142 #[.val (.ref r1), .val (.ref r2), .unset] [(.int (1 : Int32))])) _
    refine XS.goto X11.here hx rfl (pc0 := 142) (pc' := 146) rfl (hb hby d2_142) (by decide) (by decide) ?_
    show Steps p.tables e below (T11.setTop (mkF m 146 #[.val (.ref r1), .val (.ref r2), .unset] [(.int (1 : Int32))])) _
    refine XS.istoreN X11.here hx rfl (hb hby d2_146) rfl (l' := #[.val (.ref r1), .val (.ref r2), .val (.int (1 : Int32))]) rfl ?_
    show Steps p.tables e below (T11.setTop (mkF m 147 #[.val (.ref r1), .val (.ref r2), .val (.int (1 : Int32))] [])) _
    refine XS.iloadN X11.here hx rfl (hb hby d2_147) rfl ?_
    show Steps p.tables e below (T11.setTop (mkF m 148 #[.val (.ref r1), .val (.ref r2), .val (.int (1 : Int32))] [(.int (1 : Int32))])) _
    exact retN X11 hx (t := .boolean) Bd.returns (by simp) (hb hby d2_148) hr
  · show own_QP (some (.int (1 : Int32))) n0 h0 _ T11.heap _
    rw [e11]
    exact ⟨rfl, N0, rfl⟩
set_option maxRecDepth 65536 in
set_option maxHeartbeats 40000000 in
theorem rm2_10 (l : Launch) (Z : State) (a0 : Array Value) (hw : ∀ d ∈ tables_1, d.before a0 Z = true) (r1 : Addr) (r2 : Addr) (h0 : Heap) (n0 : Nat) (O0 : Old Z n0 h0) (P1 : Fld Z h0 r1 "com/example/key_warden/keywarden/engine/LockMode" "insertIntention" "Z" (.int (0 : Int32))) (P2 : Fld Z h0 r2 "com/example/key_warden/keywarden/engine/LockMode" "insertIntention" "Z" (.int (0 : Int32))) (P3 : r1 ≠ r2) (P4 : Fld Z h0 r1 "com/example/key_warden/keywarden/engine/LockMode" "keyLock" "Z" (.int (0 : Int32))) (P5 : Fld Z h0 r2 "com/example/key_warden/keywarden/engine/LockMode" "keyLock" "Z" (.int (0 : Int32))) (P6 : Fld Z h0 r1 "com/example/key_warden/keywarden/engine/LockMode" "intention" "Z" (.int (0 : Int32))) (P7 : Fld Z h0 r2 "com/example/key_warden/keywarden/engine/LockMode" "intention" "Z" (.int (0 : Int32))) (P8 : Fld Z h0 r1 "com/example/key_warden/keywarden/engine/LockMode" "shared" "Z" (.int (0 : Int32))) (P9 : Fld Z h0 r1 "com/example/key_warden/keywarden/engine/LockMode" "coversTarget" "Z" (.int (0 : Int32))) (P10 : Fld Z h0 r2 "com/example/key_warden/keywarden/engine/LockMode" "coversTarget" "Z" (.int (1 : Int32))) :
    MetFree l (⟨"com/example/key_warden/keywarden/engine/LockMode", "covers", "(Lcom/example/key_warden/keywarden/engine/LockMode;)Z"⟩ : MethodName) (head1 [Jvm.Cond.code (⟨"com/example/key_warden/keywarden/engine/LockMode", "covers", "(Lcom/example/key_warden/keywarden/engine/LockMode;)Z"⟩ : MethodName) prog_26_method_7_code 3 (some .boolean)] ({ frames := 0, cells := 0, slots := 0, locals := 0 } : Room)) (fun a U => a = #[(.ref r1), (.ref r2)] ∧ Z.Warmed39 U.vm ∧ U.heap = h0) (fun _ _ _ _ _ => True) (fun _ U o U' => ∃ v L, o = .returned v ∧ own_QP (some (.int (0 : Int32))) n0 h0 v U'.heap L ∧ FrameEnd U o U' L ({ frames := 0, cells := 0, slots := 0, locals := 0 } : Room).cells ({ frames := 0, cells := 0, slots := 0, locals := 0 } : Room).slots) := by
  refine MetFree.of_bodySF (plainFor_of_name pn_7) hisR ?_
  intro p e s m args below meth c s₁ Bd hml0 hP hK
  obtain ⟨rfl, hZ, hh⟩ := hP
  have hx := Bd.exec
  have hby := Bd.bytes
  have hml : c.maxLocals = 3 := hml0
  have hown : s.vm.findClass "com/example/key_warden/keywarden/engine/LockMode" = some m.cls := findClass_of_methodNamed Bd.named
  have hnm := (name_of_methodNamed Bd.named Bd.method).1
  have X0 : Stand p l e ({ frames := 0, cells := 0, slots := 0, locals := 0 } : Room) s m #[(.ref r1), (.ref r2)] below meth c s₁ [] 0 0 := Stand.of_body Bd
  have e0 : s₁.heap = h0 := by rw [← hh, Bd.state]; rfl
  have N0 := Fr.nil n0
  have pre0 : ∀ t, Steps p.tables e below (s₁.setTop (mkF m 0 #[.val (.ref r1), .val (.ref r2), .unset] [])) t → Steps p.tables e below (s₁.setTop (entryFrame m #[(.ref r1), (.ref r2)] 3)) t := fun t k => castTop (ef_2_RR m r1 r2) k
  obtain ⟨T1, X1, e1, st1⟩ := getF X0 hx hZ hown (host := "") (Or.inl (hw _ (List.mem_of_getElem? (i := 34) rfl))) Via.refl e0 P1 (g := (mkF m 1 #[.val (.ref r1), .val (.ref r2), .unset] [(.ref r1)])) rfl rfl (hb hby d2_1)
  obtain ⟨T2, X2, e2, st2⟩ := getF X1 hx hZ hown (host := "") (Or.inl (hw _ (List.mem_of_getElem? (i := 34) rfl))) Via.refl e1 P2 (g := (mkF m 8 #[.val (.ref r1), .val (.ref r2), .unset] [(.ref r2)])) rfl rfl (hb hby d2_8)
  have nz3 : r1 ≠ r2 := P3
  obtain ⟨T4, X4, e4, st4⟩ := getF X2 hx hZ hown (host := "") (Or.inl (hw _ (List.mem_of_getElem? (i := 36) rfl))) Via.refl e2 P4 (g := (mkF m 30 #[.val (.ref r1), .val (.ref r2), .unset] [(.ref r1)])) rfl rfl (hb hby d2_30)
  obtain ⟨T5, X5, e5, st5⟩ := getF X4 hx hZ hown (host := "") (Or.inl (hw _ (List.mem_of_getElem? (i := 36) rfl))) Via.refl e4 P5 (g := (mkF m 37 #[.val (.ref r1), .val (.ref r2), .unset] [(.ref r2)])) rfl rfl (hb hby d2_37)
  obtain ⟨T6, X6, e6, st6⟩ := getF X5 hx hZ hown (host := "") (Or.inl (hw _ (List.mem_of_getElem? (i := 38) rfl))) Via.refl e5 P6 (g := (mkF m 49 #[.val (.ref r1), .val (.ref r2), .unset] [(.ref r1)])) rfl rfl (hb hby d2_49)
  obtain ⟨T7, X7, e7, st7⟩ := getF X6 hx hZ hown (host := "") (Or.inl (hw _ (List.mem_of_getElem? (i := 38) rfl))) Via.refl e6 P7 (g := (mkF m 56 #[.val (.ref r1), .val (.ref r2), .unset] [(.ref r2)])) rfl rfl (hb hby d2_56)
  obtain ⟨T8, X8, e8, st8⟩ := getF X7 hx hZ hown (host := "") (Or.inl (hw _ (List.mem_of_getElem? (i := 44) rfl))) Via.refl e7 P8 (g := (mkF m 100 #[.val (.ref r1), .val (.ref r2), .unset] [(.ref r1)])) rfl rfl (hb hby d2_100)
  obtain ⟨T9, X9, e9, st9⟩ := getF X8 hx hZ hown (host := "") (Or.inl (hw _ (List.mem_of_getElem? (i := 46) rfl))) Via.refl e8 P9 (g := (mkF m 114 #[.val (.ref r1), .val (.ref r2), .unset] [(.ref r1)])) rfl rfl (hb hby d2_114)
  obtain ⟨T10, X10, e10, st10⟩ := getF X9 hx hZ hown (host := "") (Or.inl (hw _ (List.mem_of_getElem? (i := 46) rfl))) Via.refl e9 P10 (g := (mkF m 121 #[.val (.ref r1), .val (.ref r2), .unset] [(.ref r2)])) rfl rfl (hb hby d2_121)
  obtain ⟨fs, hr, hrun, hended, hW, hsame⟩ := X10.leave (v := (some (.int (0 : Int32)))) (fun h => by rw [Bd.returns] at h; cases h)
  refine ⟨_, _, pre0 _ ?_, hrun, hended, _, _, rfl, ?_, ⟨_, rfl⟩, hW, hsame.mono (by decide) (by decide)⟩
  · show Steps p.tables e below (s₁.setTop (mkF m 0 #[.val (.ref r1), .val (.ref r2), .unset] [])) _
    refine XS.aloadN X0.here hx rfl (hb hby d2_0) rfl rfl ?_
    show Steps p.tables e below (s₁.setTop (mkF m 1 #[.val (.ref r1), .val (.ref r2), .unset] [(.ref r1)])) _
    refine st1 _ ?_
    show Steps p.tables e below (T1.setTop (mkF m 4 #[.val (.ref r1), .val (.ref r2), .unset] [(.int (0 : Int32))])) _
    refine XS.ifNo X1.here hx rfl (hb hby d2_4) rfl (by decide) ?_
    show Steps p.tables e below (T1.setTop (mkF m 7 #[.val (.ref r1), .val (.ref r2), .unset] [])) _
    refine XS.aloadN X1.here hx rfl (hb hby d2_7) rfl rfl ?_
    show Steps p.tables e below (T1.setTop (mkF m 8 #[.val (.ref r1), .val (.ref r2), .unset] [(.ref r2)])) _
    refine st2 _ ?_
    show Steps p.tables e below (T2.setTop (mkF m 11 #[.val (.ref r1), .val (.ref r2), .unset] [(.int (0 : Int32))])) _
    refine XS.ifYes X2.here hx rfl (pc0 := 11) (pc' := 19) rfl (hb hby d2_11) rfl (by decide) (by decide) (by decide) ?_
    show Steps p.tables e below (T2.setTop (mkF m 19 #[.val (.ref r1), .val (.ref r2), .unset] [])) _
    refine XS.aloadN X2.here hx rfl (hb hby d2_19) rfl rfl ?_
    show Steps p.tables e below (T2.setTop (mkF m 20 #[.val (.ref r1), .val (.ref r2), .unset] [(.ref r1)])) _
    refine XS.aloadN X2.here hx rfl (hb hby d2_20) rfl rfl ?_
    show Steps p.tables e below (T2.setTop (mkF m 21 #[.val (.ref r1), .val (.ref r2), .unset] [(.ref r2), (.ref r1)])) _
    refine Jvm.RoadKit.acmp (g := (mkF m 21 #[.val (.ref r1), .val (.ref r2), .unset] [(.ref r2), (.ref r1)])) X2 hx rfl rfl rfl (pc0 := 21) (pc' := 29) (same := false) rfl (hb hby d2_21) rfl (decide_eq_false fun q => nz3 (Value.ref.inj q)) (by decide) (by decide) ?_
    show Steps p.tables e below (T2.setTop (mkF m 29 #[.val (.ref r1), .val (.ref r2), .unset] [])) _
    refine XS.aloadN X2.here hx rfl (hb hby d2_29) rfl rfl ?_
    show Steps p.tables e below (T2.setTop (mkF m 30 #[.val (.ref r1), .val (.ref r2), .unset] [(.ref r1)])) _
    refine st4 _ ?_
    show Steps p.tables e below (T4.setTop (mkF m 33 #[.val (.ref r1), .val (.ref r2), .unset] [(.int (0 : Int32))])) _
    refine XS.ifNo X4.here hx rfl (hb hby d2_33) rfl (by decide) ?_
    show Steps p.tables e below (T4.setTop (mkF m 36 #[.val (.ref r1), .val (.ref r2), .unset] [])) _
    refine XS.aloadN X4.here hx rfl (hb hby d2_36) rfl rfl ?_
    show Steps p.tables e below (T4.setTop (mkF m 37 #[.val (.ref r1), .val (.ref r2), .unset] [(.ref r2)])) _
    refine st5 _ ?_
    show Steps p.tables e below (T5.setTop (mkF m 40 #[.val (.ref r1), .val (.ref r2), .unset] [(.int (0 : Int32))])) _
    refine XS.ifYes X5.here hx rfl (pc0 := 40) (pc' := 48) rfl (hb hby d2_40) rfl (by decide) (by decide) (by decide) ?_
    show Steps p.tables e below (T5.setTop (mkF m 48 #[.val (.ref r1), .val (.ref r2), .unset] [])) _
    refine XS.aloadN X5.here hx rfl (hb hby d2_48) rfl rfl ?_
    show Steps p.tables e below (T5.setTop (mkF m 49 #[.val (.ref r1), .val (.ref r2), .unset] [(.ref r1)])) _
    refine st6 _ ?_
    show Steps p.tables e below (T6.setTop (mkF m 52 #[.val (.ref r1), .val (.ref r2), .unset] [(.int (0 : Int32))])) _
    refine XS.ifNo X6.here hx rfl (hb hby d2_52) rfl (by decide) ?_
    show Steps p.tables e below (T6.setTop (mkF m 55 #[.val (.ref r1), .val (.ref r2), .unset] [])) _
    refine XS.aloadN X6.here hx rfl (hb hby d2_55) rfl rfl ?_
    show Steps p.tables e below (T6.setTop (mkF m 56 #[.val (.ref r1), .val (.ref r2), .unset] [(.ref r2)])) _
    refine st7 _ ?_
    show Steps p.tables e below (T7.setTop (mkF m 59 #[.val (.ref r1), .val (.ref r2), .unset] [(.int (0 : Int32))])) _
    refine XS.ifYes X7.here hx rfl (pc0 := 59) (pc' := 99) rfl (hb hby d2_59) rfl (by decide) (by decide) (by decide) ?_
    show Steps p.tables e below (T7.setTop (mkF m 99 #[.val (.ref r1), .val (.ref r2), .unset] [])) _
    refine XS.aloadN X7.here hx rfl (hb hby d2_99) rfl rfl ?_
    show Steps p.tables e below (T7.setTop (mkF m 100 #[.val (.ref r1), .val (.ref r2), .unset] [(.ref r1)])) _
    refine st8 _ ?_
    show Steps p.tables e below (T8.setTop (mkF m 103 #[.val (.ref r1), .val (.ref r2), .unset] [(.int (0 : Int32))])) _
    refine XS.ifYes X8.here hx rfl (pc0 := 103) (pc' := 113) rfl (hb hby d2_103) rfl (by decide) (by decide) (by decide) ?_
    show Steps p.tables e below (T8.setTop (mkF m 113 #[.val (.ref r1), .val (.ref r2), .unset] [])) _
    refine XS.aloadN X8.here hx rfl (hb hby d2_113) rfl rfl ?_
    show Steps p.tables e below (T8.setTop (mkF m 114 #[.val (.ref r1), .val (.ref r2), .unset] [(.ref r1)])) _
    refine st9 _ ?_
    show Steps p.tables e below (T9.setTop (mkF m 117 #[.val (.ref r1), .val (.ref r2), .unset] [(.int (0 : Int32))])) _
    refine XS.ifNo X9.here hx rfl (hb hby d2_117) rfl (by decide) ?_
    show Steps p.tables e below (T9.setTop (mkF m 120 #[.val (.ref r1), .val (.ref r2), .unset] [])) _
    refine XS.aloadN X9.here hx rfl (hb hby d2_120) rfl rfl ?_
    show Steps p.tables e below (T9.setTop (mkF m 121 #[.val (.ref r1), .val (.ref r2), .unset] [(.ref r2)])) _
    refine st10 _ ?_
    show Steps p.tables e below (T10.setTop (mkF m 124 #[.val (.ref r1), .val (.ref r2), .unset] [(.int (1 : Int32))])) _
    refine XS.ifYes X10.here hx rfl (pc0 := 124) (pc' := 145) rfl (hb hby d2_124) rfl (by decide) (by decide) (by decide) ?_
    show Steps p.tables e below (T10.setTop (mkF m 145 #[.val (.ref r1), .val (.ref r2), .unset] [])) _
    refine XS.iconst X10.here hx rfl (hb hby d2_145) ?_
    show Steps p.tables e below (T10.setTop (mkF m 146 #[.val (.ref r1), .val (.ref r2), .unset] [(.int (0 : Int32))])) _
    refine XS.istoreN X10.here hx rfl (hb hby d2_146) rfl (l' := #[.val (.ref r1), .val (.ref r2), .val (.int (0 : Int32))]) rfl ?_
    show Steps p.tables e below (T10.setTop (mkF m 147 #[.val (.ref r1), .val (.ref r2), .val (.int (0 : Int32))] [])) _
    refine XS.iloadN X10.here hx rfl (hb hby d2_147) rfl ?_
    show Steps p.tables e below (T10.setTop (mkF m 148 #[.val (.ref r1), .val (.ref r2), .val (.int (0 : Int32))] [(.int (0 : Int32))])) _
    exact retN X10 hx (t := .boolean) Bd.returns (by simp) (hb hby d2_148) hr
  · show own_QP (some (.int (0 : Int32))) n0 h0 _ T10.heap _
    rw [e10]
    exact ⟨rfl, N0, rfl⟩
set_option maxRecDepth 65536 in
set_option maxHeartbeats 40000000 in
theorem rm2_11 (l : Launch) (Z : State) (a0 : Array Value) (hw : ∀ d ∈ tables_1, d.before a0 Z = true) (r1 : Addr) (r2 : Addr) (h0 : Heap) (n0 : Nat) (O0 : Old Z n0 h0) (P1 : Fld Z h0 r1 "com/example/key_warden/keywarden/engine/LockMode" "insertIntention" "Z" (.int (0 : Int32))) (P2 : Fld Z h0 r2 "com/example/key_warden/keywarden/engine/LockMode" "insertIntention" "Z" (.int (0 : Int32))) (P3 : r1 ≠ r2) (P4 : Fld Z h0 r1 "com/example/key_warden/keywarden/engine/LockMode" "keyLock" "Z" (.int (0 : Int32))) (P5 : Fld Z h0 r2 "com/example/key_warden/keywarden/engine/LockMode" "keyLock" "Z" (.int (0 : Int32))) (P6 : Fld Z h0 r1 "com/example/key_warden/keywarden/engine/LockMode" "intention" "Z" (.int (0 : Int32))) (P7 : Fld Z h0 r2 "com/example/key_warden/keywarden/engine/LockMode" "intention" "Z" (.int (0 : Int32))) (P8 : Fld Z h0 r1 "com/example/key_warden/keywarden/engine/LockMode" "shared" "Z" (.int (0 : Int32))) (P9 : Fld Z h0 r1 "com/example/key_warden/keywarden/engine/LockMode" "coversTarget" "Z" (.int (0 : Int32))) (P10 : Fld Z h0 r2 "com/example/key_warden/keywarden/engine/LockMode" "coversTarget" "Z" (.int (0 : Int32))) (P11 : Fld Z h0 r1 "com/example/key_warden/keywarden/engine/LockMode" "coversGap" "Z" (.int (1 : Int32))) :
    MetFree l (⟨"com/example/key_warden/keywarden/engine/LockMode", "covers", "(Lcom/example/key_warden/keywarden/engine/LockMode;)Z"⟩ : MethodName) (head1 [Jvm.Cond.code (⟨"com/example/key_warden/keywarden/engine/LockMode", "covers", "(Lcom/example/key_warden/keywarden/engine/LockMode;)Z"⟩ : MethodName) prog_26_method_7_code 3 (some .boolean)] ({ frames := 0, cells := 0, slots := 0, locals := 0 } : Room)) (fun a U => a = #[(.ref r1), (.ref r2)] ∧ Z.Warmed39 U.vm ∧ U.heap = h0) (fun _ _ _ _ _ => True) (fun _ U o U' => ∃ v L, o = .returned v ∧ own_QP (some (.int (1 : Int32))) n0 h0 v U'.heap L ∧ FrameEnd U o U' L ({ frames := 0, cells := 0, slots := 0, locals := 0 } : Room).cells ({ frames := 0, cells := 0, slots := 0, locals := 0 } : Room).slots) := by
  refine MetFree.of_bodySF (plainFor_of_name pn_7) hisR ?_
  intro p e s m args below meth c s₁ Bd hml0 hP hK
  obtain ⟨rfl, hZ, hh⟩ := hP
  have hx := Bd.exec
  have hby := Bd.bytes
  have hml : c.maxLocals = 3 := hml0
  have hown : s.vm.findClass "com/example/key_warden/keywarden/engine/LockMode" = some m.cls := findClass_of_methodNamed Bd.named
  have hnm := (name_of_methodNamed Bd.named Bd.method).1
  have X0 : Stand p l e ({ frames := 0, cells := 0, slots := 0, locals := 0 } : Room) s m #[(.ref r1), (.ref r2)] below meth c s₁ [] 0 0 := Stand.of_body Bd
  have e0 : s₁.heap = h0 := by rw [← hh, Bd.state]; rfl
  have N0 := Fr.nil n0
  have pre0 : ∀ t, Steps p.tables e below (s₁.setTop (mkF m 0 #[.val (.ref r1), .val (.ref r2), .unset] [])) t → Steps p.tables e below (s₁.setTop (entryFrame m #[(.ref r1), (.ref r2)] 3)) t := fun t k => castTop (ef_2_RR m r1 r2) k
  obtain ⟨T1, X1, e1, st1⟩ := getF X0 hx hZ hown (host := "") (Or.inl (hw _ (List.mem_of_getElem? (i := 34) rfl))) Via.refl e0 P1 (g := (mkF m 1 #[.val (.ref r1), .val (.ref r2), .unset] [(.ref r1)])) rfl rfl (hb hby d2_1)
  obtain ⟨T2, X2, e2, st2⟩ := getF X1 hx hZ hown (host := "") (Or.inl (hw _ (List.mem_of_getElem? (i := 34) rfl))) Via.refl e1 P2 (g := (mkF m 8 #[.val (.ref r1), .val (.ref r2), .unset] [(.ref r2)])) rfl rfl (hb hby d2_8)
  have nz3 : r1 ≠ r2 := P3
  obtain ⟨T4, X4, e4, st4⟩ := getF X2 hx hZ hown (host := "") (Or.inl (hw _ (List.mem_of_getElem? (i := 36) rfl))) Via.refl e2 P4 (g := (mkF m 30 #[.val (.ref r1), .val (.ref r2), .unset] [(.ref r1)])) rfl rfl (hb hby d2_30)
  obtain ⟨T5, X5, e5, st5⟩ := getF X4 hx hZ hown (host := "") (Or.inl (hw _ (List.mem_of_getElem? (i := 36) rfl))) Via.refl e4 P5 (g := (mkF m 37 #[.val (.ref r1), .val (.ref r2), .unset] [(.ref r2)])) rfl rfl (hb hby d2_37)
  obtain ⟨T6, X6, e6, st6⟩ := getF X5 hx hZ hown (host := "") (Or.inl (hw _ (List.mem_of_getElem? (i := 38) rfl))) Via.refl e5 P6 (g := (mkF m 49 #[.val (.ref r1), .val (.ref r2), .unset] [(.ref r1)])) rfl rfl (hb hby d2_49)
  obtain ⟨T7, X7, e7, st7⟩ := getF X6 hx hZ hown (host := "") (Or.inl (hw _ (List.mem_of_getElem? (i := 38) rfl))) Via.refl e6 P7 (g := (mkF m 56 #[.val (.ref r1), .val (.ref r2), .unset] [(.ref r2)])) rfl rfl (hb hby d2_56)
  obtain ⟨T8, X8, e8, st8⟩ := getF X7 hx hZ hown (host := "") (Or.inl (hw _ (List.mem_of_getElem? (i := 44) rfl))) Via.refl e7 P8 (g := (mkF m 100 #[.val (.ref r1), .val (.ref r2), .unset] [(.ref r1)])) rfl rfl (hb hby d2_100)
  obtain ⟨T9, X9, e9, st9⟩ := getF X8 hx hZ hown (host := "") (Or.inl (hw _ (List.mem_of_getElem? (i := 46) rfl))) Via.refl e8 P9 (g := (mkF m 114 #[.val (.ref r1), .val (.ref r2), .unset] [(.ref r1)])) rfl rfl (hb hby d2_114)
  obtain ⟨T10, X10, e10, st10⟩ := getF X9 hx hZ hown (host := "") (Or.inl (hw _ (List.mem_of_getElem? (i := 46) rfl))) Via.refl e9 P10 (g := (mkF m 121 #[.val (.ref r1), .val (.ref r2), .unset] [(.ref r2)])) rfl rfl (hb hby d2_121)
  obtain ⟨T11, X11, e11, st11⟩ := getF X10 hx hZ hown (host := "") (Or.inl (hw _ (List.mem_of_getElem? (i := 48) rfl))) Via.refl e10 P11 (g := (mkF m 128 #[.val (.ref r1), .val (.ref r2), .unset] [(.ref r1)])) rfl rfl (hb hby d2_128)
  obtain ⟨fs, hr, hrun, hended, hW, hsame⟩ := X11.leave (v := (some (.int (1 : Int32)))) (fun h => by rw [Bd.returns] at h; cases h)
  refine ⟨_, _, pre0 _ ?_, hrun, hended, _, _, rfl, ?_, ⟨_, rfl⟩, hW, hsame.mono (by decide) (by decide)⟩
  · show Steps p.tables e below (s₁.setTop (mkF m 0 #[.val (.ref r1), .val (.ref r2), .unset] [])) _
    refine XS.aloadN X0.here hx rfl (hb hby d2_0) rfl rfl ?_
    show Steps p.tables e below (s₁.setTop (mkF m 1 #[.val (.ref r1), .val (.ref r2), .unset] [(.ref r1)])) _
    refine st1 _ ?_
    show Steps p.tables e below (T1.setTop (mkF m 4 #[.val (.ref r1), .val (.ref r2), .unset] [(.int (0 : Int32))])) _
    refine XS.ifNo X1.here hx rfl (hb hby d2_4) rfl (by decide) ?_
    show Steps p.tables e below (T1.setTop (mkF m 7 #[.val (.ref r1), .val (.ref r2), .unset] [])) _
    refine XS.aloadN X1.here hx rfl (hb hby d2_7) rfl rfl ?_
    show Steps p.tables e below (T1.setTop (mkF m 8 #[.val (.ref r1), .val (.ref r2), .unset] [(.ref r2)])) _
    refine st2 _ ?_
    show Steps p.tables e below (T2.setTop (mkF m 11 #[.val (.ref r1), .val (.ref r2), .unset] [(.int (0 : Int32))])) _
    refine XS.ifYes X2.here hx rfl (pc0 := 11) (pc' := 19) rfl (hb hby d2_11) rfl (by decide) (by decide) (by decide) ?_
    show Steps p.tables e below (T2.setTop (mkF m 19 #[.val (.ref r1), .val (.ref r2), .unset] [])) _
    refine XS.aloadN X2.here hx rfl (hb hby d2_19) rfl rfl ?_
    show Steps p.tables e below (T2.setTop (mkF m 20 #[.val (.ref r1), .val (.ref r2), .unset] [(.ref r1)])) _
    refine XS.aloadN X2.here hx rfl (hb hby d2_20) rfl rfl ?_
    show Steps p.tables e below (T2.setTop (mkF m 21 #[.val (.ref r1), .val (.ref r2), .unset] [(.ref r2), (.ref r1)])) _
    refine Jvm.RoadKit.acmp (g := (mkF m 21 #[.val (.ref r1), .val (.ref r2), .unset] [(.ref r2), (.ref r1)])) X2 hx rfl rfl rfl (pc0 := 21) (pc' := 29) (same := false) rfl (hb hby d2_21) rfl (decide_eq_false fun q => nz3 (Value.ref.inj q)) (by decide) (by decide) ?_
    show Steps p.tables e below (T2.setTop (mkF m 29 #[.val (.ref r1), .val (.ref r2), .unset] [])) _
    refine XS.aloadN X2.here hx rfl (hb hby d2_29) rfl rfl ?_
    show Steps p.tables e below (T2.setTop (mkF m 30 #[.val (.ref r1), .val (.ref r2), .unset] [(.ref r1)])) _
    refine st4 _ ?_
    show Steps p.tables e below (T4.setTop (mkF m 33 #[.val (.ref r1), .val (.ref r2), .unset] [(.int (0 : Int32))])) _
    refine XS.ifNo X4.here hx rfl (hb hby d2_33) rfl (by decide) ?_
    show Steps p.tables e below (T4.setTop (mkF m 36 #[.val (.ref r1), .val (.ref r2), .unset] [])) _
    refine XS.aloadN X4.here hx rfl (hb hby d2_36) rfl rfl ?_
    show Steps p.tables e below (T4.setTop (mkF m 37 #[.val (.ref r1), .val (.ref r2), .unset] [(.ref r2)])) _
    refine st5 _ ?_
    show Steps p.tables e below (T5.setTop (mkF m 40 #[.val (.ref r1), .val (.ref r2), .unset] [(.int (0 : Int32))])) _
    refine XS.ifYes X5.here hx rfl (pc0 := 40) (pc' := 48) rfl (hb hby d2_40) rfl (by decide) (by decide) (by decide) ?_
    show Steps p.tables e below (T5.setTop (mkF m 48 #[.val (.ref r1), .val (.ref r2), .unset] [])) _
    refine XS.aloadN X5.here hx rfl (hb hby d2_48) rfl rfl ?_
    show Steps p.tables e below (T5.setTop (mkF m 49 #[.val (.ref r1), .val (.ref r2), .unset] [(.ref r1)])) _
    refine st6 _ ?_
    show Steps p.tables e below (T6.setTop (mkF m 52 #[.val (.ref r1), .val (.ref r2), .unset] [(.int (0 : Int32))])) _
    refine XS.ifNo X6.here hx rfl (hb hby d2_52) rfl (by decide) ?_
    show Steps p.tables e below (T6.setTop (mkF m 55 #[.val (.ref r1), .val (.ref r2), .unset] [])) _
    refine XS.aloadN X6.here hx rfl (hb hby d2_55) rfl rfl ?_
    show Steps p.tables e below (T6.setTop (mkF m 56 #[.val (.ref r1), .val (.ref r2), .unset] [(.ref r2)])) _
    refine st7 _ ?_
    show Steps p.tables e below (T7.setTop (mkF m 59 #[.val (.ref r1), .val (.ref r2), .unset] [(.int (0 : Int32))])) _
    refine XS.ifYes X7.here hx rfl (pc0 := 59) (pc' := 99) rfl (hb hby d2_59) rfl (by decide) (by decide) (by decide) ?_
    show Steps p.tables e below (T7.setTop (mkF m 99 #[.val (.ref r1), .val (.ref r2), .unset] [])) _
    refine XS.aloadN X7.here hx rfl (hb hby d2_99) rfl rfl ?_
    show Steps p.tables e below (T7.setTop (mkF m 100 #[.val (.ref r1), .val (.ref r2), .unset] [(.ref r1)])) _
    refine st8 _ ?_
    show Steps p.tables e below (T8.setTop (mkF m 103 #[.val (.ref r1), .val (.ref r2), .unset] [(.int (0 : Int32))])) _
    refine XS.ifYes X8.here hx rfl (pc0 := 103) (pc' := 113) rfl (hb hby d2_103) rfl (by decide) (by decide) (by decide) ?_
    show Steps p.tables e below (T8.setTop (mkF m 113 #[.val (.ref r1), .val (.ref r2), .unset] [])) _
    refine XS.aloadN X8.here hx rfl (hb hby d2_113) rfl rfl ?_
    show Steps p.tables e below (T8.setTop (mkF m 114 #[.val (.ref r1), .val (.ref r2), .unset] [(.ref r1)])) _
    refine st9 _ ?_
    show Steps p.tables e below (T9.setTop (mkF m 117 #[.val (.ref r1), .val (.ref r2), .unset] [(.int (0 : Int32))])) _
    refine XS.ifNo X9.here hx rfl (hb hby d2_117) rfl (by decide) ?_
    show Steps p.tables e below (T9.setTop (mkF m 120 #[.val (.ref r1), .val (.ref r2), .unset] [])) _
    refine XS.aloadN X9.here hx rfl (hb hby d2_120) rfl rfl ?_
    show Steps p.tables e below (T9.setTop (mkF m 121 #[.val (.ref r1), .val (.ref r2), .unset] [(.ref r2)])) _
    refine st10 _ ?_
    show Steps p.tables e below (T10.setTop (mkF m 124 #[.val (.ref r1), .val (.ref r2), .unset] [(.int (0 : Int32))])) _
    refine XS.ifNo X10.here hx rfl (hb hby d2_124) rfl (by decide) ?_
    show Steps p.tables e below (T10.setTop (mkF m 127 #[.val (.ref r1), .val (.ref r2), .unset] [])) _
    refine XS.aloadN X10.here hx rfl (hb hby d2_127) rfl rfl ?_
    show Steps p.tables e below (T10.setTop (mkF m 128 #[.val (.ref r1), .val (.ref r2), .unset] [(.ref r1)])) _
    refine st11 _ ?_
    show Steps p.tables e below (T11.setTop (mkF m 131 #[.val (.ref r1), .val (.ref r2), .unset] [(.int (1 : Int32))])) _
    refine XS.ifYes X11.here hx rfl (pc0 := 131) (pc' := 141) rfl (hb hby d2_131) rfl (by decide) (by decide) (by decide) ?_
    show Steps p.tables e below (T11.setTop (mkF m 141 #[.val (.ref r1), .val (.ref r2), .unset] [])) _
    refine XS.iconst X11.here hx rfl (hb hby d2_141) ?_
    show Steps p.tables e below (T11.setTop (mkF m 142 #[.val (.ref r1), .val (.ref r2), .unset] [(.int (1 : Int32))])) _
    refine XS.goto X11.here hx rfl (pc0 := 142) (pc' := 146) rfl (hb hby d2_142) (by decide) (by decide) ?_
    show Steps p.tables e below (T11.setTop (mkF m 146 #[.val (.ref r1), .val (.ref r2), .unset] [(.int (1 : Int32))])) _
    refine XS.istoreN X11.here hx rfl (hb hby d2_146) rfl (l' := #[.val (.ref r1), .val (.ref r2), .val (.int (1 : Int32))]) rfl ?_
    show Steps p.tables e below (T11.setTop (mkF m 147 #[.val (.ref r1), .val (.ref r2), .val (.int (1 : Int32))] [])) _
    refine XS.iloadN X11.here hx rfl (hb hby d2_147) rfl ?_
    show Steps p.tables e below (T11.setTop (mkF m 148 #[.val (.ref r1), .val (.ref r2), .val (.int (1 : Int32))] [(.int (1 : Int32))])) _
    exact retN X11 hx (t := .boolean) Bd.returns (by simp) (hb hby d2_148) hr
  · show own_QP (some (.int (1 : Int32))) n0 h0 _ T11.heap _
    rw [e11]
    exact ⟨rfl, N0, rfl⟩
set_option maxRecDepth 65536 in
set_option maxHeartbeats 40000000 in
theorem rm2_12 (l : Launch) (Z : State) (a0 : Array Value) (hw : ∀ d ∈ tables_1, d.before a0 Z = true) (r1 : Addr) (r2 : Addr) (h0 : Heap) (n0 : Nat) (O0 : Old Z n0 h0) (P1 : Fld Z h0 r1 "com/example/key_warden/keywarden/engine/LockMode" "insertIntention" "Z" (.int (0 : Int32))) (P2 : Fld Z h0 r2 "com/example/key_warden/keywarden/engine/LockMode" "insertIntention" "Z" (.int (0 : Int32))) (P3 : r1 ≠ r2) (P4 : Fld Z h0 r1 "com/example/key_warden/keywarden/engine/LockMode" "keyLock" "Z" (.int (0 : Int32))) (P5 : Fld Z h0 r2 "com/example/key_warden/keywarden/engine/LockMode" "keyLock" "Z" (.int (0 : Int32))) (P6 : Fld Z h0 r1 "com/example/key_warden/keywarden/engine/LockMode" "intention" "Z" (.int (0 : Int32))) (P7 : Fld Z h0 r2 "com/example/key_warden/keywarden/engine/LockMode" "intention" "Z" (.int (0 : Int32))) (P8 : Fld Z h0 r1 "com/example/key_warden/keywarden/engine/LockMode" "shared" "Z" (.int (1 : Int32))) (P9 : Fld Z h0 r2 "com/example/key_warden/keywarden/engine/LockMode" "shared" "Z" (.int (0 : Int32))) :
    MetFree l (⟨"com/example/key_warden/keywarden/engine/LockMode", "covers", "(Lcom/example/key_warden/keywarden/engine/LockMode;)Z"⟩ : MethodName) (head1 [Jvm.Cond.code (⟨"com/example/key_warden/keywarden/engine/LockMode", "covers", "(Lcom/example/key_warden/keywarden/engine/LockMode;)Z"⟩ : MethodName) prog_26_method_7_code 3 (some .boolean)] ({ frames := 0, cells := 0, slots := 0, locals := 0 } : Room)) (fun a U => a = #[(.ref r1), (.ref r2)] ∧ Z.Warmed39 U.vm ∧ U.heap = h0) (fun _ _ _ _ _ => True) (fun _ U o U' => ∃ v L, o = .returned v ∧ own_QP (some (.int (0 : Int32))) n0 h0 v U'.heap L ∧ FrameEnd U o U' L ({ frames := 0, cells := 0, slots := 0, locals := 0 } : Room).cells ({ frames := 0, cells := 0, slots := 0, locals := 0 } : Room).slots) := by
  refine MetFree.of_bodySF (plainFor_of_name pn_7) hisR ?_
  intro p e s m args below meth c s₁ Bd hml0 hP hK
  obtain ⟨rfl, hZ, hh⟩ := hP
  have hx := Bd.exec
  have hby := Bd.bytes
  have hml : c.maxLocals = 3 := hml0
  have hown : s.vm.findClass "com/example/key_warden/keywarden/engine/LockMode" = some m.cls := findClass_of_methodNamed Bd.named
  have hnm := (name_of_methodNamed Bd.named Bd.method).1
  have X0 : Stand p l e ({ frames := 0, cells := 0, slots := 0, locals := 0 } : Room) s m #[(.ref r1), (.ref r2)] below meth c s₁ [] 0 0 := Stand.of_body Bd
  have e0 : s₁.heap = h0 := by rw [← hh, Bd.state]; rfl
  have N0 := Fr.nil n0
  have pre0 : ∀ t, Steps p.tables e below (s₁.setTop (mkF m 0 #[.val (.ref r1), .val (.ref r2), .unset] [])) t → Steps p.tables e below (s₁.setTop (entryFrame m #[(.ref r1), (.ref r2)] 3)) t := fun t k => castTop (ef_2_RR m r1 r2) k
  obtain ⟨T1, X1, e1, st1⟩ := getF X0 hx hZ hown (host := "") (Or.inl (hw _ (List.mem_of_getElem? (i := 34) rfl))) Via.refl e0 P1 (g := (mkF m 1 #[.val (.ref r1), .val (.ref r2), .unset] [(.ref r1)])) rfl rfl (hb hby d2_1)
  obtain ⟨T2, X2, e2, st2⟩ := getF X1 hx hZ hown (host := "") (Or.inl (hw _ (List.mem_of_getElem? (i := 34) rfl))) Via.refl e1 P2 (g := (mkF m 8 #[.val (.ref r1), .val (.ref r2), .unset] [(.ref r2)])) rfl rfl (hb hby d2_8)
  have nz3 : r1 ≠ r2 := P3
  obtain ⟨T4, X4, e4, st4⟩ := getF X2 hx hZ hown (host := "") (Or.inl (hw _ (List.mem_of_getElem? (i := 36) rfl))) Via.refl e2 P4 (g := (mkF m 30 #[.val (.ref r1), .val (.ref r2), .unset] [(.ref r1)])) rfl rfl (hb hby d2_30)
  obtain ⟨T5, X5, e5, st5⟩ := getF X4 hx hZ hown (host := "") (Or.inl (hw _ (List.mem_of_getElem? (i := 36) rfl))) Via.refl e4 P5 (g := (mkF m 37 #[.val (.ref r1), .val (.ref r2), .unset] [(.ref r2)])) rfl rfl (hb hby d2_37)
  obtain ⟨T6, X6, e6, st6⟩ := getF X5 hx hZ hown (host := "") (Or.inl (hw _ (List.mem_of_getElem? (i := 38) rfl))) Via.refl e5 P6 (g := (mkF m 49 #[.val (.ref r1), .val (.ref r2), .unset] [(.ref r1)])) rfl rfl (hb hby d2_49)
  obtain ⟨T7, X7, e7, st7⟩ := getF X6 hx hZ hown (host := "") (Or.inl (hw _ (List.mem_of_getElem? (i := 38) rfl))) Via.refl e6 P7 (g := (mkF m 56 #[.val (.ref r1), .val (.ref r2), .unset] [(.ref r2)])) rfl rfl (hb hby d2_56)
  obtain ⟨T8, X8, e8, st8⟩ := getF X7 hx hZ hown (host := "") (Or.inl (hw _ (List.mem_of_getElem? (i := 44) rfl))) Via.refl e7 P8 (g := (mkF m 100 #[.val (.ref r1), .val (.ref r2), .unset] [(.ref r1)])) rfl rfl (hb hby d2_100)
  obtain ⟨T9, X9, e9, st9⟩ := getF X8 hx hZ hown (host := "") (Or.inl (hw _ (List.mem_of_getElem? (i := 44) rfl))) Via.refl e8 P9 (g := (mkF m 107 #[.val (.ref r1), .val (.ref r2), .unset] [(.ref r2)])) rfl rfl (hb hby d2_107)
  obtain ⟨fs, hr, hrun, hended, hW, hsame⟩ := X9.leave (v := (some (.int (0 : Int32)))) (fun h => by rw [Bd.returns] at h; cases h)
  refine ⟨_, _, pre0 _ ?_, hrun, hended, _, _, rfl, ?_, ⟨_, rfl⟩, hW, hsame.mono (by decide) (by decide)⟩
  · show Steps p.tables e below (s₁.setTop (mkF m 0 #[.val (.ref r1), .val (.ref r2), .unset] [])) _
    refine XS.aloadN X0.here hx rfl (hb hby d2_0) rfl rfl ?_
    show Steps p.tables e below (s₁.setTop (mkF m 1 #[.val (.ref r1), .val (.ref r2), .unset] [(.ref r1)])) _
    refine st1 _ ?_
    show Steps p.tables e below (T1.setTop (mkF m 4 #[.val (.ref r1), .val (.ref r2), .unset] [(.int (0 : Int32))])) _
    refine XS.ifNo X1.here hx rfl (hb hby d2_4) rfl (by decide) ?_
    show Steps p.tables e below (T1.setTop (mkF m 7 #[.val (.ref r1), .val (.ref r2), .unset] [])) _
    refine XS.aloadN X1.here hx rfl (hb hby d2_7) rfl rfl ?_
    show Steps p.tables e below (T1.setTop (mkF m 8 #[.val (.ref r1), .val (.ref r2), .unset] [(.ref r2)])) _
    refine st2 _ ?_
    show Steps p.tables e below (T2.setTop (mkF m 11 #[.val (.ref r1), .val (.ref r2), .unset] [(.int (0 : Int32))])) _
    refine XS.ifYes X2.here hx rfl (pc0 := 11) (pc' := 19) rfl (hb hby d2_11) rfl (by decide) (by decide) (by decide) ?_
    show Steps p.tables e below (T2.setTop (mkF m 19 #[.val (.ref r1), .val (.ref r2), .unset] [])) _
    refine XS.aloadN X2.here hx rfl (hb hby d2_19) rfl rfl ?_
    show Steps p.tables e below (T2.setTop (mkF m 20 #[.val (.ref r1), .val (.ref r2), .unset] [(.ref r1)])) _
    refine XS.aloadN X2.here hx rfl (hb hby d2_20) rfl rfl ?_
    show Steps p.tables e below (T2.setTop (mkF m 21 #[.val (.ref r1), .val (.ref r2), .unset] [(.ref r2), (.ref r1)])) _
    refine Jvm.RoadKit.acmp (g := (mkF m 21 #[.val (.ref r1), .val (.ref r2), .unset] [(.ref r2), (.ref r1)])) X2 hx rfl rfl rfl (pc0 := 21) (pc' := 29) (same := false) rfl (hb hby d2_21) rfl (decide_eq_false fun q => nz3 (Value.ref.inj q)) (by decide) (by decide) ?_
    show Steps p.tables e below (T2.setTop (mkF m 29 #[.val (.ref r1), .val (.ref r2), .unset] [])) _
    refine XS.aloadN X2.here hx rfl (hb hby d2_29) rfl rfl ?_
    show Steps p.tables e below (T2.setTop (mkF m 30 #[.val (.ref r1), .val (.ref r2), .unset] [(.ref r1)])) _
    refine st4 _ ?_
    show Steps p.tables e below (T4.setTop (mkF m 33 #[.val (.ref r1), .val (.ref r2), .unset] [(.int (0 : Int32))])) _
    refine XS.ifNo X4.here hx rfl (hb hby d2_33) rfl (by decide) ?_
    show Steps p.tables e below (T4.setTop (mkF m 36 #[.val (.ref r1), .val (.ref r2), .unset] [])) _
    refine XS.aloadN X4.here hx rfl (hb hby d2_36) rfl rfl ?_
    show Steps p.tables e below (T4.setTop (mkF m 37 #[.val (.ref r1), .val (.ref r2), .unset] [(.ref r2)])) _
    refine st5 _ ?_
    show Steps p.tables e below (T5.setTop (mkF m 40 #[.val (.ref r1), .val (.ref r2), .unset] [(.int (0 : Int32))])) _
    refine XS.ifYes X5.here hx rfl (pc0 := 40) (pc' := 48) rfl (hb hby d2_40) rfl (by decide) (by decide) (by decide) ?_
    show Steps p.tables e below (T5.setTop (mkF m 48 #[.val (.ref r1), .val (.ref r2), .unset] [])) _
    refine XS.aloadN X5.here hx rfl (hb hby d2_48) rfl rfl ?_
    show Steps p.tables e below (T5.setTop (mkF m 49 #[.val (.ref r1), .val (.ref r2), .unset] [(.ref r1)])) _
    refine st6 _ ?_
    show Steps p.tables e below (T6.setTop (mkF m 52 #[.val (.ref r1), .val (.ref r2), .unset] [(.int (0 : Int32))])) _
    refine XS.ifNo X6.here hx rfl (hb hby d2_52) rfl (by decide) ?_
    show Steps p.tables e below (T6.setTop (mkF m 55 #[.val (.ref r1), .val (.ref r2), .unset] [])) _
    refine XS.aloadN X6.here hx rfl (hb hby d2_55) rfl rfl ?_
    show Steps p.tables e below (T6.setTop (mkF m 56 #[.val (.ref r1), .val (.ref r2), .unset] [(.ref r2)])) _
    refine st7 _ ?_
    show Steps p.tables e below (T7.setTop (mkF m 59 #[.val (.ref r1), .val (.ref r2), .unset] [(.int (0 : Int32))])) _
    refine XS.ifYes X7.here hx rfl (pc0 := 59) (pc' := 99) rfl (hb hby d2_59) rfl (by decide) (by decide) (by decide) ?_
    show Steps p.tables e below (T7.setTop (mkF m 99 #[.val (.ref r1), .val (.ref r2), .unset] [])) _
    refine XS.aloadN X7.here hx rfl (hb hby d2_99) rfl rfl ?_
    show Steps p.tables e below (T7.setTop (mkF m 100 #[.val (.ref r1), .val (.ref r2), .unset] [(.ref r1)])) _
    refine st8 _ ?_
    show Steps p.tables e below (T8.setTop (mkF m 103 #[.val (.ref r1), .val (.ref r2), .unset] [(.int (1 : Int32))])) _
    refine XS.ifNo X8.here hx rfl (hb hby d2_103) rfl (by decide) ?_
    show Steps p.tables e below (T8.setTop (mkF m 106 #[.val (.ref r1), .val (.ref r2), .unset] [])) _
    refine XS.aloadN X8.here hx rfl (hb hby d2_106) rfl rfl ?_
    show Steps p.tables e below (T8.setTop (mkF m 107 #[.val (.ref r1), .val (.ref r2), .unset] [(.ref r2)])) _
    refine st9 _ ?_
    show Steps p.tables e below (T9.setTop (mkF m 110 #[.val (.ref r1), .val (.ref r2), .unset] [(.int (0 : Int32))])) _
    refine XS.ifYes X9.here hx rfl (pc0 := 110) (pc' := 145) rfl (hb hby d2_110) rfl (by decide) (by decide) (by decide) ?_
    show Steps p.tables e below (T9.setTop (mkF m 145 #[.val (.ref r1), .val (.ref r2), .unset] [])) _
    refine XS.iconst X9.here hx rfl (hb hby d2_145) ?_
    show Steps p.tables e below (T9.setTop (mkF m 146 #[.val (.ref r1), .val (.ref r2), .unset] [(.int (0 : Int32))])) _
    refine XS.istoreN X9.here hx rfl (hb hby d2_146) rfl (l' := #[.val (.ref r1), .val (.ref r2), .val (.int (0 : Int32))]) rfl ?_
    show Steps p.tables e below (T9.setTop (mkF m 147 #[.val (.ref r1), .val (.ref r2), .val (.int (0 : Int32))] [])) _
    refine XS.iloadN X9.here hx rfl (hb hby d2_147) rfl ?_
    show Steps p.tables e below (T9.setTop (mkF m 148 #[.val (.ref r1), .val (.ref r2), .val (.int (0 : Int32))] [(.int (0 : Int32))])) _
    exact retN X9 hx (t := .boolean) Bd.returns (by simp) (hb hby d2_148) hr
  · show own_QP (some (.int (0 : Int32))) n0 h0 _ T9.heap _
    rw [e9]
    exact ⟨rfl, N0, rfl⟩
set_option maxRecDepth 65536 in
set_option maxHeartbeats 40000000 in
theorem rm2_13 (l : Launch) (Z : State) (a0 : Array Value) (hw : ∀ d ∈ tables_1, d.before a0 Z = true) (r1 : Addr) (r2 : Addr) (h0 : Heap) (n0 : Nat) (O0 : Old Z n0 h0) (P1 : Fld Z h0 r1 "com/example/key_warden/keywarden/engine/LockMode" "insertIntention" "Z" (.int (0 : Int32))) (P2 : Fld Z h0 r2 "com/example/key_warden/keywarden/engine/LockMode" "insertIntention" "Z" (.int (0 : Int32))) (P3 : r1 ≠ r2) (P4 : Fld Z h0 r1 "com/example/key_warden/keywarden/engine/LockMode" "keyLock" "Z" (.int (0 : Int32))) (P5 : Fld Z h0 r2 "com/example/key_warden/keywarden/engine/LockMode" "keyLock" "Z" (.int (0 : Int32))) (P6 : Fld Z h0 r1 "com/example/key_warden/keywarden/engine/LockMode" "intention" "Z" (.int (0 : Int32))) (P7 : Fld Z h0 r2 "com/example/key_warden/keywarden/engine/LockMode" "intention" "Z" (.int (0 : Int32))) (P8 : Fld Z h0 r1 "com/example/key_warden/keywarden/engine/LockMode" "shared" "Z" (.int (1 : Int32))) (P9 : Fld Z h0 r2 "com/example/key_warden/keywarden/engine/LockMode" "shared" "Z" (.int (1 : Int32))) (P10 : Fld Z h0 r1 "com/example/key_warden/keywarden/engine/LockMode" "coversTarget" "Z" (.int (1 : Int32))) (P11 : Fld Z h0 r1 "com/example/key_warden/keywarden/engine/LockMode" "coversGap" "Z" (.int (1 : Int32))) :
    MetFree l (⟨"com/example/key_warden/keywarden/engine/LockMode", "covers", "(Lcom/example/key_warden/keywarden/engine/LockMode;)Z"⟩ : MethodName) (head1 [Jvm.Cond.code (⟨"com/example/key_warden/keywarden/engine/LockMode", "covers", "(Lcom/example/key_warden/keywarden/engine/LockMode;)Z"⟩ : MethodName) prog_26_method_7_code 3 (some .boolean)] ({ frames := 0, cells := 0, slots := 0, locals := 0 } : Room)) (fun a U => a = #[(.ref r1), (.ref r2)] ∧ Z.Warmed39 U.vm ∧ U.heap = h0) (fun _ _ _ _ _ => True) (fun _ U o U' => ∃ v L, o = .returned v ∧ own_QP (some (.int (1 : Int32))) n0 h0 v U'.heap L ∧ FrameEnd U o U' L ({ frames := 0, cells := 0, slots := 0, locals := 0 } : Room).cells ({ frames := 0, cells := 0, slots := 0, locals := 0 } : Room).slots) := by
  refine MetFree.of_bodySF (plainFor_of_name pn_7) hisR ?_
  intro p e s m args below meth c s₁ Bd hml0 hP hK
  obtain ⟨rfl, hZ, hh⟩ := hP
  have hx := Bd.exec
  have hby := Bd.bytes
  have hml : c.maxLocals = 3 := hml0
  have hown : s.vm.findClass "com/example/key_warden/keywarden/engine/LockMode" = some m.cls := findClass_of_methodNamed Bd.named
  have hnm := (name_of_methodNamed Bd.named Bd.method).1
  have X0 : Stand p l e ({ frames := 0, cells := 0, slots := 0, locals := 0 } : Room) s m #[(.ref r1), (.ref r2)] below meth c s₁ [] 0 0 := Stand.of_body Bd
  have e0 : s₁.heap = h0 := by rw [← hh, Bd.state]; rfl
  have N0 := Fr.nil n0
  have pre0 : ∀ t, Steps p.tables e below (s₁.setTop (mkF m 0 #[.val (.ref r1), .val (.ref r2), .unset] [])) t → Steps p.tables e below (s₁.setTop (entryFrame m #[(.ref r1), (.ref r2)] 3)) t := fun t k => castTop (ef_2_RR m r1 r2) k
  obtain ⟨T1, X1, e1, st1⟩ := getF X0 hx hZ hown (host := "") (Or.inl (hw _ (List.mem_of_getElem? (i := 34) rfl))) Via.refl e0 P1 (g := (mkF m 1 #[.val (.ref r1), .val (.ref r2), .unset] [(.ref r1)])) rfl rfl (hb hby d2_1)
  obtain ⟨T2, X2, e2, st2⟩ := getF X1 hx hZ hown (host := "") (Or.inl (hw _ (List.mem_of_getElem? (i := 34) rfl))) Via.refl e1 P2 (g := (mkF m 8 #[.val (.ref r1), .val (.ref r2), .unset] [(.ref r2)])) rfl rfl (hb hby d2_8)
  have nz3 : r1 ≠ r2 := P3
  obtain ⟨T4, X4, e4, st4⟩ := getF X2 hx hZ hown (host := "") (Or.inl (hw _ (List.mem_of_getElem? (i := 36) rfl))) Via.refl e2 P4 (g := (mkF m 30 #[.val (.ref r1), .val (.ref r2), .unset] [(.ref r1)])) rfl rfl (hb hby d2_30)
  obtain ⟨T5, X5, e5, st5⟩ := getF X4 hx hZ hown (host := "") (Or.inl (hw _ (List.mem_of_getElem? (i := 36) rfl))) Via.refl e4 P5 (g := (mkF m 37 #[.val (.ref r1), .val (.ref r2), .unset] [(.ref r2)])) rfl rfl (hb hby d2_37)
  obtain ⟨T6, X6, e6, st6⟩ := getF X5 hx hZ hown (host := "") (Or.inl (hw _ (List.mem_of_getElem? (i := 38) rfl))) Via.refl e5 P6 (g := (mkF m 49 #[.val (.ref r1), .val (.ref r2), .unset] [(.ref r1)])) rfl rfl (hb hby d2_49)
  obtain ⟨T7, X7, e7, st7⟩ := getF X6 hx hZ hown (host := "") (Or.inl (hw _ (List.mem_of_getElem? (i := 38) rfl))) Via.refl e6 P7 (g := (mkF m 56 #[.val (.ref r1), .val (.ref r2), .unset] [(.ref r2)])) rfl rfl (hb hby d2_56)
  obtain ⟨T8, X8, e8, st8⟩ := getF X7 hx hZ hown (host := "") (Or.inl (hw _ (List.mem_of_getElem? (i := 44) rfl))) Via.refl e7 P8 (g := (mkF m 100 #[.val (.ref r1), .val (.ref r2), .unset] [(.ref r1)])) rfl rfl (hb hby d2_100)
  obtain ⟨T9, X9, e9, st9⟩ := getF X8 hx hZ hown (host := "") (Or.inl (hw _ (List.mem_of_getElem? (i := 44) rfl))) Via.refl e8 P9 (g := (mkF m 107 #[.val (.ref r1), .val (.ref r2), .unset] [(.ref r2)])) rfl rfl (hb hby d2_107)
  obtain ⟨T10, X10, e10, st10⟩ := getF X9 hx hZ hown (host := "") (Or.inl (hw _ (List.mem_of_getElem? (i := 46) rfl))) Via.refl e9 P10 (g := (mkF m 114 #[.val (.ref r1), .val (.ref r2), .unset] [(.ref r1)])) rfl rfl (hb hby d2_114)
  obtain ⟨T11, X11, e11, st11⟩ := getF X10 hx hZ hown (host := "") (Or.inl (hw _ (List.mem_of_getElem? (i := 48) rfl))) Via.refl e10 P11 (g := (mkF m 128 #[.val (.ref r1), .val (.ref r2), .unset] [(.ref r1)])) rfl rfl (hb hby d2_128)
  obtain ⟨fs, hr, hrun, hended, hW, hsame⟩ := X11.leave (v := (some (.int (1 : Int32)))) (fun h => by rw [Bd.returns] at h; cases h)
  refine ⟨_, _, pre0 _ ?_, hrun, hended, _, _, rfl, ?_, ⟨_, rfl⟩, hW, hsame.mono (by decide) (by decide)⟩
  · show Steps p.tables e below (s₁.setTop (mkF m 0 #[.val (.ref r1), .val (.ref r2), .unset] [])) _
    refine XS.aloadN X0.here hx rfl (hb hby d2_0) rfl rfl ?_
    show Steps p.tables e below (s₁.setTop (mkF m 1 #[.val (.ref r1), .val (.ref r2), .unset] [(.ref r1)])) _
    refine st1 _ ?_
    show Steps p.tables e below (T1.setTop (mkF m 4 #[.val (.ref r1), .val (.ref r2), .unset] [(.int (0 : Int32))])) _
    refine XS.ifNo X1.here hx rfl (hb hby d2_4) rfl (by decide) ?_
    show Steps p.tables e below (T1.setTop (mkF m 7 #[.val (.ref r1), .val (.ref r2), .unset] [])) _
    refine XS.aloadN X1.here hx rfl (hb hby d2_7) rfl rfl ?_
    show Steps p.tables e below (T1.setTop (mkF m 8 #[.val (.ref r1), .val (.ref r2), .unset] [(.ref r2)])) _
    refine st2 _ ?_
    show Steps p.tables e below (T2.setTop (mkF m 11 #[.val (.ref r1), .val (.ref r2), .unset] [(.int (0 : Int32))])) _
    refine XS.ifYes X2.here hx rfl (pc0 := 11) (pc' := 19) rfl (hb hby d2_11) rfl (by decide) (by decide) (by decide) ?_
    show Steps p.tables e below (T2.setTop (mkF m 19 #[.val (.ref r1), .val (.ref r2), .unset] [])) _
    refine XS.aloadN X2.here hx rfl (hb hby d2_19) rfl rfl ?_
    show Steps p.tables e below (T2.setTop (mkF m 20 #[.val (.ref r1), .val (.ref r2), .unset] [(.ref r1)])) _
    refine XS.aloadN X2.here hx rfl (hb hby d2_20) rfl rfl ?_
    show Steps p.tables e below (T2.setTop (mkF m 21 #[.val (.ref r1), .val (.ref r2), .unset] [(.ref r2), (.ref r1)])) _
    refine Jvm.RoadKit.acmp (g := (mkF m 21 #[.val (.ref r1), .val (.ref r2), .unset] [(.ref r2), (.ref r1)])) X2 hx rfl rfl rfl (pc0 := 21) (pc' := 29) (same := false) rfl (hb hby d2_21) rfl (decide_eq_false fun q => nz3 (Value.ref.inj q)) (by decide) (by decide) ?_
    show Steps p.tables e below (T2.setTop (mkF m 29 #[.val (.ref r1), .val (.ref r2), .unset] [])) _
    refine XS.aloadN X2.here hx rfl (hb hby d2_29) rfl rfl ?_
    show Steps p.tables e below (T2.setTop (mkF m 30 #[.val (.ref r1), .val (.ref r2), .unset] [(.ref r1)])) _
    refine st4 _ ?_
    show Steps p.tables e below (T4.setTop (mkF m 33 #[.val (.ref r1), .val (.ref r2), .unset] [(.int (0 : Int32))])) _
    refine XS.ifNo X4.here hx rfl (hb hby d2_33) rfl (by decide) ?_
    show Steps p.tables e below (T4.setTop (mkF m 36 #[.val (.ref r1), .val (.ref r2), .unset] [])) _
    refine XS.aloadN X4.here hx rfl (hb hby d2_36) rfl rfl ?_
    show Steps p.tables e below (T4.setTop (mkF m 37 #[.val (.ref r1), .val (.ref r2), .unset] [(.ref r2)])) _
    refine st5 _ ?_
    show Steps p.tables e below (T5.setTop (mkF m 40 #[.val (.ref r1), .val (.ref r2), .unset] [(.int (0 : Int32))])) _
    refine XS.ifYes X5.here hx rfl (pc0 := 40) (pc' := 48) rfl (hb hby d2_40) rfl (by decide) (by decide) (by decide) ?_
    show Steps p.tables e below (T5.setTop (mkF m 48 #[.val (.ref r1), .val (.ref r2), .unset] [])) _
    refine XS.aloadN X5.here hx rfl (hb hby d2_48) rfl rfl ?_
    show Steps p.tables e below (T5.setTop (mkF m 49 #[.val (.ref r1), .val (.ref r2), .unset] [(.ref r1)])) _
    refine st6 _ ?_
    show Steps p.tables e below (T6.setTop (mkF m 52 #[.val (.ref r1), .val (.ref r2), .unset] [(.int (0 : Int32))])) _
    refine XS.ifNo X6.here hx rfl (hb hby d2_52) rfl (by decide) ?_
    show Steps p.tables e below (T6.setTop (mkF m 55 #[.val (.ref r1), .val (.ref r2), .unset] [])) _
    refine XS.aloadN X6.here hx rfl (hb hby d2_55) rfl rfl ?_
    show Steps p.tables e below (T6.setTop (mkF m 56 #[.val (.ref r1), .val (.ref r2), .unset] [(.ref r2)])) _
    refine st7 _ ?_
    show Steps p.tables e below (T7.setTop (mkF m 59 #[.val (.ref r1), .val (.ref r2), .unset] [(.int (0 : Int32))])) _
    refine XS.ifYes X7.here hx rfl (pc0 := 59) (pc' := 99) rfl (hb hby d2_59) rfl (by decide) (by decide) (by decide) ?_
    show Steps p.tables e below (T7.setTop (mkF m 99 #[.val (.ref r1), .val (.ref r2), .unset] [])) _
    refine XS.aloadN X7.here hx rfl (hb hby d2_99) rfl rfl ?_
    show Steps p.tables e below (T7.setTop (mkF m 100 #[.val (.ref r1), .val (.ref r2), .unset] [(.ref r1)])) _
    refine st8 _ ?_
    show Steps p.tables e below (T8.setTop (mkF m 103 #[.val (.ref r1), .val (.ref r2), .unset] [(.int (1 : Int32))])) _
    refine XS.ifNo X8.here hx rfl (hb hby d2_103) rfl (by decide) ?_
    show Steps p.tables e below (T8.setTop (mkF m 106 #[.val (.ref r1), .val (.ref r2), .unset] [])) _
    refine XS.aloadN X8.here hx rfl (hb hby d2_106) rfl rfl ?_
    show Steps p.tables e below (T8.setTop (mkF m 107 #[.val (.ref r1), .val (.ref r2), .unset] [(.ref r2)])) _
    refine st9 _ ?_
    show Steps p.tables e below (T9.setTop (mkF m 110 #[.val (.ref r1), .val (.ref r2), .unset] [(.int (1 : Int32))])) _
    refine XS.ifNo X9.here hx rfl (hb hby d2_110) rfl (by decide) ?_
    show Steps p.tables e below (T9.setTop (mkF m 113 #[.val (.ref r1), .val (.ref r2), .unset] [])) _
    refine XS.aloadN X9.here hx rfl (hb hby d2_113) rfl rfl ?_
    show Steps p.tables e below (T9.setTop (mkF m 114 #[.val (.ref r1), .val (.ref r2), .unset] [(.ref r1)])) _
    refine st10 _ ?_
    show Steps p.tables e below (T10.setTop (mkF m 117 #[.val (.ref r1), .val (.ref r2), .unset] [(.int (1 : Int32))])) _
    refine XS.ifYes X10.here hx rfl (pc0 := 117) (pc' := 127) rfl (hb hby d2_117) rfl (by decide) (by decide) (by decide) ?_
    show Steps p.tables e below (T10.setTop (mkF m 127 #[.val (.ref r1), .val (.ref r2), .unset] [])) _
    refine XS.aloadN X10.here hx rfl (hb hby d2_127) rfl rfl ?_
    show Steps p.tables e below (T10.setTop (mkF m 128 #[.val (.ref r1), .val (.ref r2), .unset] [(.ref r1)])) _
    refine st11 _ ?_
    show Steps p.tables e below (T11.setTop (mkF m 131 #[.val (.ref r1), .val (.ref r2), .unset] [(.int (1 : Int32))])) _
    refine XS.ifYes X11.here hx rfl (pc0 := 131) (pc' := 141) rfl (hb hby d2_131) rfl (by decide) (by decide) (by decide) ?_
    show Steps p.tables e below (T11.setTop (mkF m 141 #[.val (.ref r1), .val (.ref r2), .unset] [])) _
    refine XS.iconst X11.here hx rfl (hb hby d2_141) ?_
    show Steps p.tables e below (T11.setTop (mkF m 142 #[.val (.ref r1), .val (.ref r2), .unset] [(.int (1 : Int32))])) _
    refine XS.goto X11.here hx rfl (pc0 := 142) (pc' := 146) rfl (hb hby d2_142) (by decide) (by decide) ?_
    show Steps p.tables e below (T11.setTop (mkF m 146 #[.val (.ref r1), .val (.ref r2), .unset] [(.int (1 : Int32))])) _
    refine XS.istoreN X11.here hx rfl (hb hby d2_146) rfl (l' := #[.val (.ref r1), .val (.ref r2), .val (.int (1 : Int32))]) rfl ?_
    show Steps p.tables e below (T11.setTop (mkF m 147 #[.val (.ref r1), .val (.ref r2), .val (.int (1 : Int32))] [])) _
    refine XS.iloadN X11.here hx rfl (hb hby d2_147) rfl ?_
    show Steps p.tables e below (T11.setTop (mkF m 148 #[.val (.ref r1), .val (.ref r2), .val (.int (1 : Int32))] [(.int (1 : Int32))])) _
    exact retN X11 hx (t := .boolean) Bd.returns (by simp) (hb hby d2_148) hr
  · show own_QP (some (.int (1 : Int32))) n0 h0 _ T11.heap _
    rw [e11]
    exact ⟨rfl, N0, rfl⟩
set_option maxRecDepth 65536 in
set_option maxHeartbeats 40000000 in
theorem rm2_14 (l : Launch) (Z : State) (a0 : Array Value) (hw : ∀ d ∈ tables_1, d.before a0 Z = true) (r1 : Addr) (r2 : Addr) (h0 : Heap) (n0 : Nat) (O0 : Old Z n0 h0) (P1 : Fld Z h0 r1 "com/example/key_warden/keywarden/engine/LockMode" "insertIntention" "Z" (.int (0 : Int32))) (P2 : Fld Z h0 r2 "com/example/key_warden/keywarden/engine/LockMode" "insertIntention" "Z" (.int (0 : Int32))) (P3 : r1 ≠ r2) (P4 : Fld Z h0 r1 "com/example/key_warden/keywarden/engine/LockMode" "keyLock" "Z" (.int (0 : Int32))) (P5 : Fld Z h0 r2 "com/example/key_warden/keywarden/engine/LockMode" "keyLock" "Z" (.int (0 : Int32))) (P6 : Fld Z h0 r1 "com/example/key_warden/keywarden/engine/LockMode" "intention" "Z" (.int (0 : Int32))) (P7 : Fld Z h0 r2 "com/example/key_warden/keywarden/engine/LockMode" "intention" "Z" (.int (0 : Int32))) (P8 : Fld Z h0 r1 "com/example/key_warden/keywarden/engine/LockMode" "shared" "Z" (.int (1 : Int32))) (P9 : Fld Z h0 r2 "com/example/key_warden/keywarden/engine/LockMode" "shared" "Z" (.int (1 : Int32))) (P10 : Fld Z h0 r1 "com/example/key_warden/keywarden/engine/LockMode" "coversTarget" "Z" (.int (1 : Int32))) (P11 : Fld Z h0 r1 "com/example/key_warden/keywarden/engine/LockMode" "coversGap" "Z" (.int (0 : Int32))) (P12 : Fld Z h0 r2 "com/example/key_warden/keywarden/engine/LockMode" "coversGap" "Z" (.int (1 : Int32))) :
    MetFree l (⟨"com/example/key_warden/keywarden/engine/LockMode", "covers", "(Lcom/example/key_warden/keywarden/engine/LockMode;)Z"⟩ : MethodName) (head1 [Jvm.Cond.code (⟨"com/example/key_warden/keywarden/engine/LockMode", "covers", "(Lcom/example/key_warden/keywarden/engine/LockMode;)Z"⟩ : MethodName) prog_26_method_7_code 3 (some .boolean)] ({ frames := 0, cells := 0, slots := 0, locals := 0 } : Room)) (fun a U => a = #[(.ref r1), (.ref r2)] ∧ Z.Warmed39 U.vm ∧ U.heap = h0) (fun _ _ _ _ _ => True) (fun _ U o U' => ∃ v L, o = .returned v ∧ own_QP (some (.int (0 : Int32))) n0 h0 v U'.heap L ∧ FrameEnd U o U' L ({ frames := 0, cells := 0, slots := 0, locals := 0 } : Room).cells ({ frames := 0, cells := 0, slots := 0, locals := 0 } : Room).slots) := by
  refine MetFree.of_bodySF (plainFor_of_name pn_7) hisR ?_
  intro p e s m args below meth c s₁ Bd hml0 hP hK
  obtain ⟨rfl, hZ, hh⟩ := hP
  have hx := Bd.exec
  have hby := Bd.bytes
  have hml : c.maxLocals = 3 := hml0
  have hown : s.vm.findClass "com/example/key_warden/keywarden/engine/LockMode" = some m.cls := findClass_of_methodNamed Bd.named
  have hnm := (name_of_methodNamed Bd.named Bd.method).1
  have X0 : Stand p l e ({ frames := 0, cells := 0, slots := 0, locals := 0 } : Room) s m #[(.ref r1), (.ref r2)] below meth c s₁ [] 0 0 := Stand.of_body Bd
  have e0 : s₁.heap = h0 := by rw [← hh, Bd.state]; rfl
  have N0 := Fr.nil n0
  have pre0 : ∀ t, Steps p.tables e below (s₁.setTop (mkF m 0 #[.val (.ref r1), .val (.ref r2), .unset] [])) t → Steps p.tables e below (s₁.setTop (entryFrame m #[(.ref r1), (.ref r2)] 3)) t := fun t k => castTop (ef_2_RR m r1 r2) k
  obtain ⟨T1, X1, e1, st1⟩ := getF X0 hx hZ hown (host := "") (Or.inl (hw _ (List.mem_of_getElem? (i := 34) rfl))) Via.refl e0 P1 (g := (mkF m 1 #[.val (.ref r1), .val (.ref r2), .unset] [(.ref r1)])) rfl rfl (hb hby d2_1)
  obtain ⟨T2, X2, e2, st2⟩ := getF X1 hx hZ hown (host := "") (Or.inl (hw _ (List.mem_of_getElem? (i := 34) rfl))) Via.refl e1 P2 (g := (mkF m 8 #[.val (.ref r1), .val (.ref r2), .unset] [(.ref r2)])) rfl rfl (hb hby d2_8)
  have nz3 : r1 ≠ r2 := P3
  obtain ⟨T4, X4, e4, st4⟩ := getF X2 hx hZ hown (host := "") (Or.inl (hw _ (List.mem_of_getElem? (i := 36) rfl))) Via.refl e2 P4 (g := (mkF m 30 #[.val (.ref r1), .val (.ref r2), .unset] [(.ref r1)])) rfl rfl (hb hby d2_30)
  obtain ⟨T5, X5, e5, st5⟩ := getF X4 hx hZ hown (host := "") (Or.inl (hw _ (List.mem_of_getElem? (i := 36) rfl))) Via.refl e4 P5 (g := (mkF m 37 #[.val (.ref r1), .val (.ref r2), .unset] [(.ref r2)])) rfl rfl (hb hby d2_37)
  obtain ⟨T6, X6, e6, st6⟩ := getF X5 hx hZ hown (host := "") (Or.inl (hw _ (List.mem_of_getElem? (i := 38) rfl))) Via.refl e5 P6 (g := (mkF m 49 #[.val (.ref r1), .val (.ref r2), .unset] [(.ref r1)])) rfl rfl (hb hby d2_49)
  obtain ⟨T7, X7, e7, st7⟩ := getF X6 hx hZ hown (host := "") (Or.inl (hw _ (List.mem_of_getElem? (i := 38) rfl))) Via.refl e6 P7 (g := (mkF m 56 #[.val (.ref r1), .val (.ref r2), .unset] [(.ref r2)])) rfl rfl (hb hby d2_56)
  obtain ⟨T8, X8, e8, st8⟩ := getF X7 hx hZ hown (host := "") (Or.inl (hw _ (List.mem_of_getElem? (i := 44) rfl))) Via.refl e7 P8 (g := (mkF m 100 #[.val (.ref r1), .val (.ref r2), .unset] [(.ref r1)])) rfl rfl (hb hby d2_100)
  obtain ⟨T9, X9, e9, st9⟩ := getF X8 hx hZ hown (host := "") (Or.inl (hw _ (List.mem_of_getElem? (i := 44) rfl))) Via.refl e8 P9 (g := (mkF m 107 #[.val (.ref r1), .val (.ref r2), .unset] [(.ref r2)])) rfl rfl (hb hby d2_107)
  obtain ⟨T10, X10, e10, st10⟩ := getF X9 hx hZ hown (host := "") (Or.inl (hw _ (List.mem_of_getElem? (i := 46) rfl))) Via.refl e9 P10 (g := (mkF m 114 #[.val (.ref r1), .val (.ref r2), .unset] [(.ref r1)])) rfl rfl (hb hby d2_114)
  obtain ⟨T11, X11, e11, st11⟩ := getF X10 hx hZ hown (host := "") (Or.inl (hw _ (List.mem_of_getElem? (i := 48) rfl))) Via.refl e10 P11 (g := (mkF m 128 #[.val (.ref r1), .val (.ref r2), .unset] [(.ref r1)])) rfl rfl (hb hby d2_128)
  obtain ⟨T12, X12, e12, st12⟩ := getF X11 hx hZ hown (host := "") (Or.inl (hw _ (List.mem_of_getElem? (i := 48) rfl))) Via.refl e11 P12 (g := (mkF m 135 #[.val (.ref r1), .val (.ref r2), .unset] [(.ref r2)])) rfl rfl (hb hby d2_135)
  obtain ⟨fs, hr, hrun, hended, hW, hsame⟩ := X12.leave (v := (some (.int (0 : Int32)))) (fun h => by rw [Bd.returns] at h; cases h)
  refine ⟨_, _, pre0 _ ?_, hrun, hended, _, _, rfl, ?_, ⟨_, rfl⟩, hW, hsame.mono (by decide) (by decide)⟩
  · show Steps p.tables e below (s₁.setTop (mkF m 0 #[.val (.ref r1), .val (.ref r2), .unset] [])) _
    refine XS.aloadN X0.here hx rfl (hb hby d2_0) rfl rfl ?_
    show Steps p.tables e below (s₁.setTop (mkF m 1 #[.val (.ref r1), .val (.ref r2), .unset] [(.ref r1)])) _
    refine st1 _ ?_
    show Steps p.tables e below (T1.setTop (mkF m 4 #[.val (.ref r1), .val (.ref r2), .unset] [(.int (0 : Int32))])) _
    refine XS.ifNo X1.here hx rfl (hb hby d2_4) rfl (by decide) ?_
    show Steps p.tables e below (T1.setTop (mkF m 7 #[.val (.ref r1), .val (.ref r2), .unset] [])) _
    refine XS.aloadN X1.here hx rfl (hb hby d2_7) rfl rfl ?_
    show Steps p.tables e below (T1.setTop (mkF m 8 #[.val (.ref r1), .val (.ref r2), .unset] [(.ref r2)])) _
    refine st2 _ ?_
    show Steps p.tables e below (T2.setTop (mkF m 11 #[.val (.ref r1), .val (.ref r2), .unset] [(.int (0 : Int32))])) _
    refine XS.ifYes X2.here hx rfl (pc0 := 11) (pc' := 19) rfl (hb hby d2_11) rfl (by decide) (by decide) (by decide) ?_
    show Steps p.tables e below (T2.setTop (mkF m 19 #[.val (.ref r1), .val (.ref r2), .unset] [])) _
    refine XS.aloadN X2.here hx rfl (hb hby d2_19) rfl rfl ?_
    show Steps p.tables e below (T2.setTop (mkF m 20 #[.val (.ref r1), .val (.ref r2), .unset] [(.ref r1)])) _
    refine XS.aloadN X2.here hx rfl (hb hby d2_20) rfl rfl ?_
    show Steps p.tables e below (T2.setTop (mkF m 21 #[.val (.ref r1), .val (.ref r2), .unset] [(.ref r2), (.ref r1)])) _
    refine Jvm.RoadKit.acmp (g := (mkF m 21 #[.val (.ref r1), .val (.ref r2), .unset] [(.ref r2), (.ref r1)])) X2 hx rfl rfl rfl (pc0 := 21) (pc' := 29) (same := false) rfl (hb hby d2_21) rfl (decide_eq_false fun q => nz3 (Value.ref.inj q)) (by decide) (by decide) ?_
    show Steps p.tables e below (T2.setTop (mkF m 29 #[.val (.ref r1), .val (.ref r2), .unset] [])) _
    refine XS.aloadN X2.here hx rfl (hb hby d2_29) rfl rfl ?_
    show Steps p.tables e below (T2.setTop (mkF m 30 #[.val (.ref r1), .val (.ref r2), .unset] [(.ref r1)])) _
    refine st4 _ ?_
    show Steps p.tables e below (T4.setTop (mkF m 33 #[.val (.ref r1), .val (.ref r2), .unset] [(.int (0 : Int32))])) _
    refine XS.ifNo X4.here hx rfl (hb hby d2_33) rfl (by decide) ?_
    show Steps p.tables e below (T4.setTop (mkF m 36 #[.val (.ref r1), .val (.ref r2), .unset] [])) _
    refine XS.aloadN X4.here hx rfl (hb hby d2_36) rfl rfl ?_
    show Steps p.tables e below (T4.setTop (mkF m 37 #[.val (.ref r1), .val (.ref r2), .unset] [(.ref r2)])) _
    refine st5 _ ?_
    show Steps p.tables e below (T5.setTop (mkF m 40 #[.val (.ref r1), .val (.ref r2), .unset] [(.int (0 : Int32))])) _
    refine XS.ifYes X5.here hx rfl (pc0 := 40) (pc' := 48) rfl (hb hby d2_40) rfl (by decide) (by decide) (by decide) ?_
    show Steps p.tables e below (T5.setTop (mkF m 48 #[.val (.ref r1), .val (.ref r2), .unset] [])) _
    refine XS.aloadN X5.here hx rfl (hb hby d2_48) rfl rfl ?_
    show Steps p.tables e below (T5.setTop (mkF m 49 #[.val (.ref r1), .val (.ref r2), .unset] [(.ref r1)])) _
    refine st6 _ ?_
    show Steps p.tables e below (T6.setTop (mkF m 52 #[.val (.ref r1), .val (.ref r2), .unset] [(.int (0 : Int32))])) _
    refine XS.ifNo X6.here hx rfl (hb hby d2_52) rfl (by decide) ?_
    show Steps p.tables e below (T6.setTop (mkF m 55 #[.val (.ref r1), .val (.ref r2), .unset] [])) _
    refine XS.aloadN X6.here hx rfl (hb hby d2_55) rfl rfl ?_
    show Steps p.tables e below (T6.setTop (mkF m 56 #[.val (.ref r1), .val (.ref r2), .unset] [(.ref r2)])) _
    refine st7 _ ?_
    show Steps p.tables e below (T7.setTop (mkF m 59 #[.val (.ref r1), .val (.ref r2), .unset] [(.int (0 : Int32))])) _
    refine XS.ifYes X7.here hx rfl (pc0 := 59) (pc' := 99) rfl (hb hby d2_59) rfl (by decide) (by decide) (by decide) ?_
    show Steps p.tables e below (T7.setTop (mkF m 99 #[.val (.ref r1), .val (.ref r2), .unset] [])) _
    refine XS.aloadN X7.here hx rfl (hb hby d2_99) rfl rfl ?_
    show Steps p.tables e below (T7.setTop (mkF m 100 #[.val (.ref r1), .val (.ref r2), .unset] [(.ref r1)])) _
    refine st8 _ ?_
    show Steps p.tables e below (T8.setTop (mkF m 103 #[.val (.ref r1), .val (.ref r2), .unset] [(.int (1 : Int32))])) _
    refine XS.ifNo X8.here hx rfl (hb hby d2_103) rfl (by decide) ?_
    show Steps p.tables e below (T8.setTop (mkF m 106 #[.val (.ref r1), .val (.ref r2), .unset] [])) _
    refine XS.aloadN X8.here hx rfl (hb hby d2_106) rfl rfl ?_
    show Steps p.tables e below (T8.setTop (mkF m 107 #[.val (.ref r1), .val (.ref r2), .unset] [(.ref r2)])) _
    refine st9 _ ?_
    show Steps p.tables e below (T9.setTop (mkF m 110 #[.val (.ref r1), .val (.ref r2), .unset] [(.int (1 : Int32))])) _
    refine XS.ifNo X9.here hx rfl (hb hby d2_110) rfl (by decide) ?_
    show Steps p.tables e below (T9.setTop (mkF m 113 #[.val (.ref r1), .val (.ref r2), .unset] [])) _
    refine XS.aloadN X9.here hx rfl (hb hby d2_113) rfl rfl ?_
    show Steps p.tables e below (T9.setTop (mkF m 114 #[.val (.ref r1), .val (.ref r2), .unset] [(.ref r1)])) _
    refine st10 _ ?_
    show Steps p.tables e below (T10.setTop (mkF m 117 #[.val (.ref r1), .val (.ref r2), .unset] [(.int (1 : Int32))])) _
    refine XS.ifYes X10.here hx rfl (pc0 := 117) (pc' := 127) rfl (hb hby d2_117) rfl (by decide) (by decide) (by decide) ?_
    show Steps p.tables e below (T10.setTop (mkF m 127 #[.val (.ref r1), .val (.ref r2), .unset] [])) _
    refine XS.aloadN X10.here hx rfl (hb hby d2_127) rfl rfl ?_
    show Steps p.tables e below (T10.setTop (mkF m 128 #[.val (.ref r1), .val (.ref r2), .unset] [(.ref r1)])) _
    refine st11 _ ?_
    show Steps p.tables e below (T11.setTop (mkF m 131 #[.val (.ref r1), .val (.ref r2), .unset] [(.int (0 : Int32))])) _
    refine XS.ifNo X11.here hx rfl (hb hby d2_131) rfl (by decide) ?_
    show Steps p.tables e below (T11.setTop (mkF m 134 #[.val (.ref r1), .val (.ref r2), .unset] [])) _
    refine XS.aloadN X11.here hx rfl (hb hby d2_134) rfl rfl ?_
    show Steps p.tables e below (T11.setTop (mkF m 135 #[.val (.ref r1), .val (.ref r2), .unset] [(.ref r2)])) _
    refine st12 _ ?_
    show Steps p.tables e below (T12.setTop (mkF m 138 #[.val (.ref r1), .val (.ref r2), .unset] [(.int (1 : Int32))])) _
    refine XS.ifYes X12.here hx rfl (pc0 := 138) (pc' := 145) rfl (hb hby d2_138) rfl (by decide) (by decide) (by decide) ?_
    show Steps p.tables e below (T12.setTop (mkF m 145 #[.val (.ref r1), .val (.ref r2), .unset] [])) _
    refine XS.iconst X12.here hx rfl (hb hby d2_145) ?_
    show Steps p.tables e below (T12.setTop (mkF m 146 #[.val (.ref r1), .val (.ref r2), .unset] [(.int (0 : Int32))])) _
    refine XS.istoreN X12.here hx rfl (hb hby d2_146) rfl (l' := #[.val (.ref r1), .val (.ref r2), .val (.int (0 : Int32))]) rfl ?_
    show Steps p.tables e below (T12.setTop (mkF m 147 #[.val (.ref r1), .val (.ref r2), .val (.int (0 : Int32))] [])) _
    refine XS.iloadN X12.here hx rfl (hb hby d2_147) rfl ?_
    show Steps p.tables e below (T12.setTop (mkF m 148 #[.val (.ref r1), .val (.ref r2), .val (.int (0 : Int32))] [(.int (0 : Int32))])) _
    exact retN X12 hx (t := .boolean) Bd.returns (by simp) (hb hby d2_148) hr
  · show own_QP (some (.int (0 : Int32))) n0 h0 _ T12.heap _
    rw [e12]
    exact ⟨rfl, N0, rfl⟩
set_option maxRecDepth 65536 in
set_option maxHeartbeats 40000000 in
theorem rm2_15 (l : Launch) (Z : State) (a0 : Array Value) (hw : ∀ d ∈ tables_1, d.before a0 Z = true) (r1 : Addr) (r2 : Addr) (h0 : Heap) (n0 : Nat) (O0 : Old Z n0 h0) (P1 : Fld Z h0 r1 "com/example/key_warden/keywarden/engine/LockMode" "insertIntention" "Z" (.int (0 : Int32))) (P2 : Fld Z h0 r2 "com/example/key_warden/keywarden/engine/LockMode" "insertIntention" "Z" (.int (0 : Int32))) (P3 : r1 ≠ r2) (P4 : Fld Z h0 r1 "com/example/key_warden/keywarden/engine/LockMode" "keyLock" "Z" (.int (0 : Int32))) (P5 : Fld Z h0 r2 "com/example/key_warden/keywarden/engine/LockMode" "keyLock" "Z" (.int (0 : Int32))) (P6 : Fld Z h0 r1 "com/example/key_warden/keywarden/engine/LockMode" "intention" "Z" (.int (0 : Int32))) (P7 : Fld Z h0 r2 "com/example/key_warden/keywarden/engine/LockMode" "intention" "Z" (.int (0 : Int32))) (P8 : Fld Z h0 r1 "com/example/key_warden/keywarden/engine/LockMode" "shared" "Z" (.int (1 : Int32))) (P9 : Fld Z h0 r2 "com/example/key_warden/keywarden/engine/LockMode" "shared" "Z" (.int (1 : Int32))) (P10 : Fld Z h0 r1 "com/example/key_warden/keywarden/engine/LockMode" "coversTarget" "Z" (.int (0 : Int32))) (P11 : Fld Z h0 r2 "com/example/key_warden/keywarden/engine/LockMode" "coversTarget" "Z" (.int (1 : Int32))) :
    MetFree l (⟨"com/example/key_warden/keywarden/engine/LockMode", "covers", "(Lcom/example/key_warden/keywarden/engine/LockMode;)Z"⟩ : MethodName) (head1 [Jvm.Cond.code (⟨"com/example/key_warden/keywarden/engine/LockMode", "covers", "(Lcom/example/key_warden/keywarden/engine/LockMode;)Z"⟩ : MethodName) prog_26_method_7_code 3 (some .boolean)] ({ frames := 0, cells := 0, slots := 0, locals := 0 } : Room)) (fun a U => a = #[(.ref r1), (.ref r2)] ∧ Z.Warmed39 U.vm ∧ U.heap = h0) (fun _ _ _ _ _ => True) (fun _ U o U' => ∃ v L, o = .returned v ∧ own_QP (some (.int (0 : Int32))) n0 h0 v U'.heap L ∧ FrameEnd U o U' L ({ frames := 0, cells := 0, slots := 0, locals := 0 } : Room).cells ({ frames := 0, cells := 0, slots := 0, locals := 0 } : Room).slots) := by
  refine MetFree.of_bodySF (plainFor_of_name pn_7) hisR ?_
  intro p e s m args below meth c s₁ Bd hml0 hP hK
  obtain ⟨rfl, hZ, hh⟩ := hP
  have hx := Bd.exec
  have hby := Bd.bytes
  have hml : c.maxLocals = 3 := hml0
  have hown : s.vm.findClass "com/example/key_warden/keywarden/engine/LockMode" = some m.cls := findClass_of_methodNamed Bd.named
  have hnm := (name_of_methodNamed Bd.named Bd.method).1
  have X0 : Stand p l e ({ frames := 0, cells := 0, slots := 0, locals := 0 } : Room) s m #[(.ref r1), (.ref r2)] below meth c s₁ [] 0 0 := Stand.of_body Bd
  have e0 : s₁.heap = h0 := by rw [← hh, Bd.state]; rfl
  have N0 := Fr.nil n0
  have pre0 : ∀ t, Steps p.tables e below (s₁.setTop (mkF m 0 #[.val (.ref r1), .val (.ref r2), .unset] [])) t → Steps p.tables e below (s₁.setTop (entryFrame m #[(.ref r1), (.ref r2)] 3)) t := fun t k => castTop (ef_2_RR m r1 r2) k
  obtain ⟨T1, X1, e1, st1⟩ := getF X0 hx hZ hown (host := "") (Or.inl (hw _ (List.mem_of_getElem? (i := 34) rfl))) Via.refl e0 P1 (g := (mkF m 1 #[.val (.ref r1), .val (.ref r2), .unset] [(.ref r1)])) rfl rfl (hb hby d2_1)
  obtain ⟨T2, X2, e2, st2⟩ := getF X1 hx hZ hown (host := "") (Or.inl (hw _ (List.mem_of_getElem? (i := 34) rfl))) Via.refl e1 P2 (g := (mkF m 8 #[.val (.ref r1), .val (.ref r2), .unset] [(.ref r2)])) rfl rfl (hb hby d2_8)
  have nz3 : r1 ≠ r2 := P3
  obtain ⟨T4, X4, e4, st4⟩ := getF X2 hx hZ hown (host := "") (Or.inl (hw _ (List.mem_of_getElem? (i := 36) rfl))) Via.refl e2 P4 (g := (mkF m 30 #[.val (.ref r1), .val (.ref r2), .unset] [(.ref r1)])) rfl rfl (hb hby d2_30)
  obtain ⟨T5, X5, e5, st5⟩ := getF X4 hx hZ hown (host := "") (Or.inl (hw _ (List.mem_of_getElem? (i := 36) rfl))) Via.refl e4 P5 (g := (mkF m 37 #[.val (.ref r1), .val (.ref r2), .unset] [(.ref r2)])) rfl rfl (hb hby d2_37)
  obtain ⟨T6, X6, e6, st6⟩ := getF X5 hx hZ hown (host := "") (Or.inl (hw _ (List.mem_of_getElem? (i := 38) rfl))) Via.refl e5 P6 (g := (mkF m 49 #[.val (.ref r1), .val (.ref r2), .unset] [(.ref r1)])) rfl rfl (hb hby d2_49)
  obtain ⟨T7, X7, e7, st7⟩ := getF X6 hx hZ hown (host := "") (Or.inl (hw _ (List.mem_of_getElem? (i := 38) rfl))) Via.refl e6 P7 (g := (mkF m 56 #[.val (.ref r1), .val (.ref r2), .unset] [(.ref r2)])) rfl rfl (hb hby d2_56)
  obtain ⟨T8, X8, e8, st8⟩ := getF X7 hx hZ hown (host := "") (Or.inl (hw _ (List.mem_of_getElem? (i := 44) rfl))) Via.refl e7 P8 (g := (mkF m 100 #[.val (.ref r1), .val (.ref r2), .unset] [(.ref r1)])) rfl rfl (hb hby d2_100)
  obtain ⟨T9, X9, e9, st9⟩ := getF X8 hx hZ hown (host := "") (Or.inl (hw _ (List.mem_of_getElem? (i := 44) rfl))) Via.refl e8 P9 (g := (mkF m 107 #[.val (.ref r1), .val (.ref r2), .unset] [(.ref r2)])) rfl rfl (hb hby d2_107)
  obtain ⟨T10, X10, e10, st10⟩ := getF X9 hx hZ hown (host := "") (Or.inl (hw _ (List.mem_of_getElem? (i := 46) rfl))) Via.refl e9 P10 (g := (mkF m 114 #[.val (.ref r1), .val (.ref r2), .unset] [(.ref r1)])) rfl rfl (hb hby d2_114)
  obtain ⟨T11, X11, e11, st11⟩ := getF X10 hx hZ hown (host := "") (Or.inl (hw _ (List.mem_of_getElem? (i := 46) rfl))) Via.refl e10 P11 (g := (mkF m 121 #[.val (.ref r1), .val (.ref r2), .unset] [(.ref r2)])) rfl rfl (hb hby d2_121)
  obtain ⟨fs, hr, hrun, hended, hW, hsame⟩ := X11.leave (v := (some (.int (0 : Int32)))) (fun h => by rw [Bd.returns] at h; cases h)
  refine ⟨_, _, pre0 _ ?_, hrun, hended, _, _, rfl, ?_, ⟨_, rfl⟩, hW, hsame.mono (by decide) (by decide)⟩
  · show Steps p.tables e below (s₁.setTop (mkF m 0 #[.val (.ref r1), .val (.ref r2), .unset] [])) _
    refine XS.aloadN X0.here hx rfl (hb hby d2_0) rfl rfl ?_
    show Steps p.tables e below (s₁.setTop (mkF m 1 #[.val (.ref r1), .val (.ref r2), .unset] [(.ref r1)])) _
    refine st1 _ ?_
    show Steps p.tables e below (T1.setTop (mkF m 4 #[.val (.ref r1), .val (.ref r2), .unset] [(.int (0 : Int32))])) _
    refine XS.ifNo X1.here hx rfl (hb hby d2_4) rfl (by decide) ?_
    show Steps p.tables e below (T1.setTop (mkF m 7 #[.val (.ref r1), .val (.ref r2), .unset] [])) _
    refine XS.aloadN X1.here hx rfl (hb hby d2_7) rfl rfl ?_
    show Steps p.tables e below (T1.setTop (mkF m 8 #[.val (.ref r1), .val (.ref r2), .unset] [(.ref r2)])) _
    refine st2 _ ?_
    show Steps p.tables e below (T2.setTop (mkF m 11 #[.val (.ref r1), .val (.ref r2), .unset] [(.int (0 : Int32))])) _
    refine XS.ifYes X2.here hx rfl (pc0 := 11) (pc' := 19) rfl (hb hby d2_11) rfl (by decide) (by decide) (by decide) ?_
    show Steps p.tables e below (T2.setTop (mkF m 19 #[.val (.ref r1), .val (.ref r2), .unset] [])) _
    refine XS.aloadN X2.here hx rfl (hb hby d2_19) rfl rfl ?_
    show Steps p.tables e below (T2.setTop (mkF m 20 #[.val (.ref r1), .val (.ref r2), .unset] [(.ref r1)])) _
    refine XS.aloadN X2.here hx rfl (hb hby d2_20) rfl rfl ?_
    show Steps p.tables e below (T2.setTop (mkF m 21 #[.val (.ref r1), .val (.ref r2), .unset] [(.ref r2), (.ref r1)])) _
    refine Jvm.RoadKit.acmp (g := (mkF m 21 #[.val (.ref r1), .val (.ref r2), .unset] [(.ref r2), (.ref r1)])) X2 hx rfl rfl rfl (pc0 := 21) (pc' := 29) (same := false) rfl (hb hby d2_21) rfl (decide_eq_false fun q => nz3 (Value.ref.inj q)) (by decide) (by decide) ?_
    show Steps p.tables e below (T2.setTop (mkF m 29 #[.val (.ref r1), .val (.ref r2), .unset] [])) _
    refine XS.aloadN X2.here hx rfl (hb hby d2_29) rfl rfl ?_
    show Steps p.tables e below (T2.setTop (mkF m 30 #[.val (.ref r1), .val (.ref r2), .unset] [(.ref r1)])) _
    refine st4 _ ?_
    show Steps p.tables e below (T4.setTop (mkF m 33 #[.val (.ref r1), .val (.ref r2), .unset] [(.int (0 : Int32))])) _
    refine XS.ifNo X4.here hx rfl (hb hby d2_33) rfl (by decide) ?_
    show Steps p.tables e below (T4.setTop (mkF m 36 #[.val (.ref r1), .val (.ref r2), .unset] [])) _
    refine XS.aloadN X4.here hx rfl (hb hby d2_36) rfl rfl ?_
    show Steps p.tables e below (T4.setTop (mkF m 37 #[.val (.ref r1), .val (.ref r2), .unset] [(.ref r2)])) _
    refine st5 _ ?_
    show Steps p.tables e below (T5.setTop (mkF m 40 #[.val (.ref r1), .val (.ref r2), .unset] [(.int (0 : Int32))])) _
    refine XS.ifYes X5.here hx rfl (pc0 := 40) (pc' := 48) rfl (hb hby d2_40) rfl (by decide) (by decide) (by decide) ?_
    show Steps p.tables e below (T5.setTop (mkF m 48 #[.val (.ref r1), .val (.ref r2), .unset] [])) _
    refine XS.aloadN X5.here hx rfl (hb hby d2_48) rfl rfl ?_
    show Steps p.tables e below (T5.setTop (mkF m 49 #[.val (.ref r1), .val (.ref r2), .unset] [(.ref r1)])) _
    refine st6 _ ?_
    show Steps p.tables e below (T6.setTop (mkF m 52 #[.val (.ref r1), .val (.ref r2), .unset] [(.int (0 : Int32))])) _
    refine XS.ifNo X6.here hx rfl (hb hby d2_52) rfl (by decide) ?_
    show Steps p.tables e below (T6.setTop (mkF m 55 #[.val (.ref r1), .val (.ref r2), .unset] [])) _
    refine XS.aloadN X6.here hx rfl (hb hby d2_55) rfl rfl ?_
    show Steps p.tables e below (T6.setTop (mkF m 56 #[.val (.ref r1), .val (.ref r2), .unset] [(.ref r2)])) _
    refine st7 _ ?_
    show Steps p.tables e below (T7.setTop (mkF m 59 #[.val (.ref r1), .val (.ref r2), .unset] [(.int (0 : Int32))])) _
    refine XS.ifYes X7.here hx rfl (pc0 := 59) (pc' := 99) rfl (hb hby d2_59) rfl (by decide) (by decide) (by decide) ?_
    show Steps p.tables e below (T7.setTop (mkF m 99 #[.val (.ref r1), .val (.ref r2), .unset] [])) _
    refine XS.aloadN X7.here hx rfl (hb hby d2_99) rfl rfl ?_
    show Steps p.tables e below (T7.setTop (mkF m 100 #[.val (.ref r1), .val (.ref r2), .unset] [(.ref r1)])) _
    refine st8 _ ?_
    show Steps p.tables e below (T8.setTop (mkF m 103 #[.val (.ref r1), .val (.ref r2), .unset] [(.int (1 : Int32))])) _
    refine XS.ifNo X8.here hx rfl (hb hby d2_103) rfl (by decide) ?_
    show Steps p.tables e below (T8.setTop (mkF m 106 #[.val (.ref r1), .val (.ref r2), .unset] [])) _
    refine XS.aloadN X8.here hx rfl (hb hby d2_106) rfl rfl ?_
    show Steps p.tables e below (T8.setTop (mkF m 107 #[.val (.ref r1), .val (.ref r2), .unset] [(.ref r2)])) _
    refine st9 _ ?_
    show Steps p.tables e below (T9.setTop (mkF m 110 #[.val (.ref r1), .val (.ref r2), .unset] [(.int (1 : Int32))])) _
    refine XS.ifNo X9.here hx rfl (hb hby d2_110) rfl (by decide) ?_
    show Steps p.tables e below (T9.setTop (mkF m 113 #[.val (.ref r1), .val (.ref r2), .unset] [])) _
    refine XS.aloadN X9.here hx rfl (hb hby d2_113) rfl rfl ?_
    show Steps p.tables e below (T9.setTop (mkF m 114 #[.val (.ref r1), .val (.ref r2), .unset] [(.ref r1)])) _
    refine st10 _ ?_
    show Steps p.tables e below (T10.setTop (mkF m 117 #[.val (.ref r1), .val (.ref r2), .unset] [(.int (0 : Int32))])) _
    refine XS.ifNo X10.here hx rfl (hb hby d2_117) rfl (by decide) ?_
    show Steps p.tables e below (T10.setTop (mkF m 120 #[.val (.ref r1), .val (.ref r2), .unset] [])) _
    refine XS.aloadN X10.here hx rfl (hb hby d2_120) rfl rfl ?_
    show Steps p.tables e below (T10.setTop (mkF m 121 #[.val (.ref r1), .val (.ref r2), .unset] [(.ref r2)])) _
    refine st11 _ ?_
    show Steps p.tables e below (T11.setTop (mkF m 124 #[.val (.ref r1), .val (.ref r2), .unset] [(.int (1 : Int32))])) _
    refine XS.ifYes X11.here hx rfl (pc0 := 124) (pc' := 145) rfl (hb hby d2_124) rfl (by decide) (by decide) (by decide) ?_
    show Steps p.tables e below (T11.setTop (mkF m 145 #[.val (.ref r1), .val (.ref r2), .unset] [])) _
    refine XS.iconst X11.here hx rfl (hb hby d2_145) ?_
    show Steps p.tables e below (T11.setTop (mkF m 146 #[.val (.ref r1), .val (.ref r2), .unset] [(.int (0 : Int32))])) _
    refine XS.istoreN X11.here hx rfl (hb hby d2_146) rfl (l' := #[.val (.ref r1), .val (.ref r2), .val (.int (0 : Int32))]) rfl ?_
    show Steps p.tables e below (T11.setTop (mkF m 147 #[.val (.ref r1), .val (.ref r2), .val (.int (0 : Int32))] [])) _
    refine XS.iloadN X11.here hx rfl (hb hby d2_147) rfl ?_
    show Steps p.tables e below (T11.setTop (mkF m 148 #[.val (.ref r1), .val (.ref r2), .val (.int (0 : Int32))] [(.int (0 : Int32))])) _
    exact retN X11 hx (t := .boolean) Bd.returns (by simp) (hb hby d2_148) hr
  · show own_QP (some (.int (0 : Int32))) n0 h0 _ T11.heap _
    rw [e11]
    exact ⟨rfl, N0, rfl⟩
set_option maxRecDepth 65536 in
set_option maxHeartbeats 40000000 in
theorem rm2_16 (l : Launch) (Z : State) (a0 : Array Value) (hw : ∀ d ∈ tables_1, d.before a0 Z = true) (r1 : Addr) (r2 : Addr) (h0 : Heap) (n0 : Nat) (O0 : Old Z n0 h0) (P1 : Fld Z h0 r1 "com/example/key_warden/keywarden/engine/LockMode" "insertIntention" "Z" (.int (1 : Int32))) :
    MetFree l (⟨"com/example/key_warden/keywarden/engine/LockMode", "covers", "(Lcom/example/key_warden/keywarden/engine/LockMode;)Z"⟩ : MethodName) (head1 [Jvm.Cond.code (⟨"com/example/key_warden/keywarden/engine/LockMode", "covers", "(Lcom/example/key_warden/keywarden/engine/LockMode;)Z"⟩ : MethodName) prog_26_method_7_code 3 (some .boolean)] ({ frames := 0, cells := 0, slots := 0, locals := 0 } : Room)) (fun a U => a = #[(.ref r1), (.ref r2)] ∧ Z.Warmed39 U.vm ∧ U.heap = h0) (fun _ _ _ _ _ => True) (fun _ U o U' => ∃ v L, o = .returned v ∧ own_QP (some (.int (0 : Int32))) n0 h0 v U'.heap L ∧ FrameEnd U o U' L ({ frames := 0, cells := 0, slots := 0, locals := 0 } : Room).cells ({ frames := 0, cells := 0, slots := 0, locals := 0 } : Room).slots) := by
  refine MetFree.of_bodySF (plainFor_of_name pn_7) hisR ?_
  intro p e s m args below meth c s₁ Bd hml0 hP hK
  obtain ⟨rfl, hZ, hh⟩ := hP
  have hx := Bd.exec
  have hby := Bd.bytes
  have hml : c.maxLocals = 3 := hml0
  have hown : s.vm.findClass "com/example/key_warden/keywarden/engine/LockMode" = some m.cls := findClass_of_methodNamed Bd.named
  have hnm := (name_of_methodNamed Bd.named Bd.method).1
  have X0 : Stand p l e ({ frames := 0, cells := 0, slots := 0, locals := 0 } : Room) s m #[(.ref r1), (.ref r2)] below meth c s₁ [] 0 0 := Stand.of_body Bd
  have e0 : s₁.heap = h0 := by rw [← hh, Bd.state]; rfl
  have N0 := Fr.nil n0
  have pre0 : ∀ t, Steps p.tables e below (s₁.setTop (mkF m 0 #[.val (.ref r1), .val (.ref r2), .unset] [])) t → Steps p.tables e below (s₁.setTop (entryFrame m #[(.ref r1), (.ref r2)] 3)) t := fun t k => castTop (ef_2_RR m r1 r2) k
  obtain ⟨T1, X1, e1, st1⟩ := getF X0 hx hZ hown (host := "") (Or.inl (hw _ (List.mem_of_getElem? (i := 34) rfl))) Via.refl e0 P1 (g := (mkF m 1 #[.val (.ref r1), .val (.ref r2), .unset] [(.ref r1)])) rfl rfl (hb hby d2_1)
  obtain ⟨fs, hr, hrun, hended, hW, hsame⟩ := X1.leave (v := (some (.int (0 : Int32)))) (fun h => by rw [Bd.returns] at h; cases h)
  refine ⟨_, _, pre0 _ ?_, hrun, hended, _, _, rfl, ?_, ⟨_, rfl⟩, hW, hsame.mono (by decide) (by decide)⟩
  · show Steps p.tables e below (s₁.setTop (mkF m 0 #[.val (.ref r1), .val (.ref r2), .unset] [])) _
    refine XS.aloadN X0.here hx rfl (hb hby d2_0) rfl rfl ?_
    show Steps p.tables e below (s₁.setTop (mkF m 1 #[.val (.ref r1), .val (.ref r2), .unset] [(.ref r1)])) _
    refine st1 _ ?_
    show Steps p.tables e below (T1.setTop (mkF m 4 #[.val (.ref r1), .val (.ref r2), .unset] [(.int (1 : Int32))])) _
    refine XS.ifYes X1.here hx rfl (pc0 := 4) (pc' := 14) rfl (hb hby d2_4) rfl (by decide) (by decide) (by decide) ?_
    show Steps p.tables e below (T1.setTop (mkF m 14 #[.val (.ref r1), .val (.ref r2), .unset] [])) _
    refine XS.iconst X1.here hx rfl (hb hby d2_14) ?_
    show Steps p.tables e below (T1.setTop (mkF m 15 #[.val (.ref r1), .val (.ref r2), .unset] [(.int (0 : Int32))])) _
    refine XS.istoreN X1.here hx rfl (hb hby d2_15) rfl (l' := #[.val (.ref r1), .val (.ref r2), .val (.int (0 : Int32))]) rfl ?_
    show Steps p.tables e below (T1.setTop (mkF m 16 #[.val (.ref r1), .val (.ref r2), .val (.int (0 : Int32))] [])) _
    refine XS.goto X1.here hx rfl (pc0 := 16) (pc' := 147) rfl (hb hby d2_16) (by decide) (by decide) ?_
    show Steps p.tables e below (T1.setTop (mkF m 147 #[.val (.ref r1), .val (.ref r2), .val (.int (0 : Int32))] [])) _
    refine XS.iloadN X1.here hx rfl (hb hby d2_147) rfl ?_
    show Steps p.tables e below (T1.setTop (mkF m 148 #[.val (.ref r1), .val (.ref r2), .val (.int (0 : Int32))] [(.int (0 : Int32))])) _
    exact retN X1 hx (t := .boolean) Bd.returns (by simp) (hb hby d2_148) hr
  · show own_QP (some (.int (0 : Int32))) n0 h0 _ T1.heap _
    rw [e1]
    exact ⟨rfl, N0, rfl⟩
set_option maxRecDepth 65536 in
set_option maxHeartbeats 40000000 in
theorem rm2_17 (l : Launch) (Z : State) (a0 : Array Value) (hw : ∀ d ∈ tables_1, d.before a0 Z = true) (r1 : Addr) (h0 : Heap) (n0 : Nat) (O0 : Old Z n0 h0) (P1 : Fld Z h0 r1 "com/example/key_warden/keywarden/engine/LockMode" "insertIntention" "Z" (.int (1 : Int32))) :
    MetFree l (⟨"com/example/key_warden/keywarden/engine/LockMode", "covers", "(Lcom/example/key_warden/keywarden/engine/LockMode;)Z"⟩ : MethodName) (head1 [Jvm.Cond.code (⟨"com/example/key_warden/keywarden/engine/LockMode", "covers", "(Lcom/example/key_warden/keywarden/engine/LockMode;)Z"⟩ : MethodName) prog_26_method_7_code 3 (some .boolean)] ({ frames := 0, cells := 0, slots := 0, locals := 0 } : Room)) (fun a U => a = #[(.ref r1), (.ref r1)] ∧ Z.Warmed39 U.vm ∧ U.heap = h0) (fun _ _ _ _ _ => True) (fun _ U o U' => ∃ v L, o = .returned v ∧ own_QP (some (.int (0 : Int32))) n0 h0 v U'.heap L ∧ FrameEnd U o U' L ({ frames := 0, cells := 0, slots := 0, locals := 0 } : Room).cells ({ frames := 0, cells := 0, slots := 0, locals := 0 } : Room).slots) := by
  refine MetFree.of_bodySF (plainFor_of_name pn_7) hisR ?_
  intro p e s m args below meth c s₁ Bd hml0 hP hK
  obtain ⟨rfl, hZ, hh⟩ := hP
  have hx := Bd.exec
  have hby := Bd.bytes
  have hml : c.maxLocals = 3 := hml0
  have hown : s.vm.findClass "com/example/key_warden/keywarden/engine/LockMode" = some m.cls := findClass_of_methodNamed Bd.named
  have hnm := (name_of_methodNamed Bd.named Bd.method).1
  have X0 : Stand p l e ({ frames := 0, cells := 0, slots := 0, locals := 0 } : Room) s m #[(.ref r1), (.ref r1)] below meth c s₁ [] 0 0 := Stand.of_body Bd
  have e0 : s₁.heap = h0 := by rw [← hh, Bd.state]; rfl
  have N0 := Fr.nil n0
  have pre0 : ∀ t, Steps p.tables e below (s₁.setTop (mkF m 0 #[.val (.ref r1), .val (.ref r1), .unset] [])) t → Steps p.tables e below (s₁.setTop (entryFrame m #[(.ref r1), (.ref r1)] 3)) t := fun t k => castTop (ef_2_RR m r1 r1) k
  obtain ⟨T1, X1, e1, st1⟩ := getF X0 hx hZ hown (host := "") (Or.inl (hw _ (List.mem_of_getElem? (i := 34) rfl))) Via.refl e0 P1 (g := (mkF m 1 #[.val (.ref r1), .val (.ref r1), .unset] [(.ref r1)])) rfl rfl (hb hby d2_1)
  obtain ⟨fs, hr, hrun, hended, hW, hsame⟩ := X1.leave (v := (some (.int (0 : Int32)))) (fun h => by rw [Bd.returns] at h; cases h)
  refine ⟨_, _, pre0 _ ?_, hrun, hended, _, _, rfl, ?_, ⟨_, rfl⟩, hW, hsame.mono (by decide) (by decide)⟩
  · show Steps p.tables e below (s₁.setTop (mkF m 0 #[.val (.ref r1), .val (.ref r1), .unset] [])) _
    refine XS.aloadN X0.here hx rfl (hb hby d2_0) rfl rfl ?_
    show Steps p.tables e below (s₁.setTop (mkF m 1 #[.val (.ref r1), .val (.ref r1), .unset] [(.ref r1)])) _
    refine st1 _ ?_
    show Steps p.tables e below (T1.setTop (mkF m 4 #[.val (.ref r1), .val (.ref r1), .unset] [(.int (1 : Int32))])) _
    refine XS.ifYes X1.here hx rfl (pc0 := 4) (pc' := 14) rfl (hb hby d2_4) rfl (by decide) (by decide) (by decide) ?_
    show Steps p.tables e below (T1.setTop (mkF m 14 #[.val (.ref r1), .val (.ref r1), .unset] [])) _
    refine XS.iconst X1.here hx rfl (hb hby d2_14) ?_
    show Steps p.tables e below (T1.setTop (mkF m 15 #[.val (.ref r1), .val (.ref r1), .unset] [(.int (0 : Int32))])) _
    refine XS.istoreN X1.here hx rfl (hb hby d2_15) rfl (l' := #[.val (.ref r1), .val (.ref r1), .val (.int (0 : Int32))]) rfl ?_
    show Steps p.tables e below (T1.setTop (mkF m 16 #[.val (.ref r1), .val (.ref r1), .val (.int (0 : Int32))] [])) _
    refine XS.goto X1.here hx rfl (pc0 := 16) (pc' := 147) rfl (hb hby d2_16) (by decide) (by decide) ?_
    show Steps p.tables e below (T1.setTop (mkF m 147 #[.val (.ref r1), .val (.ref r1), .val (.int (0 : Int32))] [])) _
    refine XS.iloadN X1.here hx rfl (hb hby d2_147) rfl ?_
    show Steps p.tables e below (T1.setTop (mkF m 148 #[.val (.ref r1), .val (.ref r1), .val (.int (0 : Int32))] [(.int (0 : Int32))])) _
    exact retN X1 hx (t := .boolean) Bd.returns (by simp) (hb hby d2_148) hr
  · show own_QP (some (.int (0 : Int32))) n0 h0 _ T1.heap _
    rw [e1]
    exact ⟨rfl, N0, rfl⟩
set_option maxRecDepth 65536 in
set_option maxHeartbeats 40000000 in
theorem rm2_18 (l : Launch) (Z : State) (a0 : Array Value) (hw : ∀ d ∈ tables_1, d.before a0 Z = true) (r1 : Addr) (r2 : Addr) (h0 : Heap) (n0 : Nat) (O0 : Old Z n0 h0) (P1 : Fld Z h0 r1 "com/example/key_warden/keywarden/engine/LockMode" "insertIntention" "Z" (.int (0 : Int32))) (P2 : Fld Z h0 r2 "com/example/key_warden/keywarden/engine/LockMode" "insertIntention" "Z" (.int (0 : Int32))) (P3 : r1 ≠ r2) (P4 : Fld Z h0 r1 "com/example/key_warden/keywarden/engine/LockMode" "keyLock" "Z" (.int (1 : Int32))) :
    MetFree l (⟨"com/example/key_warden/keywarden/engine/LockMode", "covers", "(Lcom/example/key_warden/keywarden/engine/LockMode;)Z"⟩ : MethodName) (head1 [Jvm.Cond.code (⟨"com/example/key_warden/keywarden/engine/LockMode", "covers", "(Lcom/example/key_warden/keywarden/engine/LockMode;)Z"⟩ : MethodName) prog_26_method_7_code 3 (some .boolean)] ({ frames := 0, cells := 0, slots := 0, locals := 0 } : Room)) (fun a U => a = #[(.ref r1), (.ref r2)] ∧ Z.Warmed39 U.vm ∧ U.heap = h0) (fun _ _ _ _ _ => True) (fun _ U o U' => ∃ v L, o = .returned v ∧ own_QP (some (.int (0 : Int32))) n0 h0 v U'.heap L ∧ FrameEnd U o U' L ({ frames := 0, cells := 0, slots := 0, locals := 0 } : Room).cells ({ frames := 0, cells := 0, slots := 0, locals := 0 } : Room).slots) := by
  refine MetFree.of_bodySF (plainFor_of_name pn_7) hisR ?_
  intro p e s m args below meth c s₁ Bd hml0 hP hK
  obtain ⟨rfl, hZ, hh⟩ := hP
  have hx := Bd.exec
  have hby := Bd.bytes
  have hml : c.maxLocals = 3 := hml0
  have hown : s.vm.findClass "com/example/key_warden/keywarden/engine/LockMode" = some m.cls := findClass_of_methodNamed Bd.named
  have hnm := (name_of_methodNamed Bd.named Bd.method).1
  have X0 : Stand p l e ({ frames := 0, cells := 0, slots := 0, locals := 0 } : Room) s m #[(.ref r1), (.ref r2)] below meth c s₁ [] 0 0 := Stand.of_body Bd
  have e0 : s₁.heap = h0 := by rw [← hh, Bd.state]; rfl
  have N0 := Fr.nil n0
  have pre0 : ∀ t, Steps p.tables e below (s₁.setTop (mkF m 0 #[.val (.ref r1), .val (.ref r2), .unset] [])) t → Steps p.tables e below (s₁.setTop (entryFrame m #[(.ref r1), (.ref r2)] 3)) t := fun t k => castTop (ef_2_RR m r1 r2) k
  obtain ⟨T1, X1, e1, st1⟩ := getF X0 hx hZ hown (host := "") (Or.inl (hw _ (List.mem_of_getElem? (i := 34) rfl))) Via.refl e0 P1 (g := (mkF m 1 #[.val (.ref r1), .val (.ref r2), .unset] [(.ref r1)])) rfl rfl (hb hby d2_1)
  obtain ⟨T2, X2, e2, st2⟩ := getF X1 hx hZ hown (host := "") (Or.inl (hw _ (List.mem_of_getElem? (i := 34) rfl))) Via.refl e1 P2 (g := (mkF m 8 #[.val (.ref r1), .val (.ref r2), .unset] [(.ref r2)])) rfl rfl (hb hby d2_8)
  have nz3 : r1 ≠ r2 := P3
  obtain ⟨T4, X4, e4, st4⟩ := getF X2 hx hZ hown (host := "") (Or.inl (hw _ (List.mem_of_getElem? (i := 36) rfl))) Via.refl e2 P4 (g := (mkF m 30 #[.val (.ref r1), .val (.ref r2), .unset] [(.ref r1)])) rfl rfl (hb hby d2_30)
  obtain ⟨fs, hr, hrun, hended, hW, hsame⟩ := X4.leave (v := (some (.int (0 : Int32)))) (fun h => by rw [Bd.returns] at h; cases h)
  refine ⟨_, _, pre0 _ ?_, hrun, hended, _, _, rfl, ?_, ⟨_, rfl⟩, hW, hsame.mono (by decide) (by decide)⟩
  · show Steps p.tables e below (s₁.setTop (mkF m 0 #[.val (.ref r1), .val (.ref r2), .unset] [])) _
    refine XS.aloadN X0.here hx rfl (hb hby d2_0) rfl rfl ?_
    show Steps p.tables e below (s₁.setTop (mkF m 1 #[.val (.ref r1), .val (.ref r2), .unset] [(.ref r1)])) _
    refine st1 _ ?_
    show Steps p.tables e below (T1.setTop (mkF m 4 #[.val (.ref r1), .val (.ref r2), .unset] [(.int (0 : Int32))])) _
    refine XS.ifNo X1.here hx rfl (hb hby d2_4) rfl (by decide) ?_
    show Steps p.tables e below (T1.setTop (mkF m 7 #[.val (.ref r1), .val (.ref r2), .unset] [])) _
    refine XS.aloadN X1.here hx rfl (hb hby d2_7) rfl rfl ?_
    show Steps p.tables e below (T1.setTop (mkF m 8 #[.val (.ref r1), .val (.ref r2), .unset] [(.ref r2)])) _
    refine st2 _ ?_
    show Steps p.tables e below (T2.setTop (mkF m 11 #[.val (.ref r1), .val (.ref r2), .unset] [(.int (0 : Int32))])) _
    refine XS.ifYes X2.here hx rfl (pc0 := 11) (pc' := 19) rfl (hb hby d2_11) rfl (by decide) (by decide) (by decide) ?_
    show Steps p.tables e below (T2.setTop (mkF m 19 #[.val (.ref r1), .val (.ref r2), .unset] [])) _
    refine XS.aloadN X2.here hx rfl (hb hby d2_19) rfl rfl ?_
    show Steps p.tables e below (T2.setTop (mkF m 20 #[.val (.ref r1), .val (.ref r2), .unset] [(.ref r1)])) _
    refine XS.aloadN X2.here hx rfl (hb hby d2_20) rfl rfl ?_
    show Steps p.tables e below (T2.setTop (mkF m 21 #[.val (.ref r1), .val (.ref r2), .unset] [(.ref r2), (.ref r1)])) _
    refine Jvm.RoadKit.acmp (g := (mkF m 21 #[.val (.ref r1), .val (.ref r2), .unset] [(.ref r2), (.ref r1)])) X2 hx rfl rfl rfl (pc0 := 21) (pc' := 29) (same := false) rfl (hb hby d2_21) rfl (decide_eq_false fun q => nz3 (Value.ref.inj q)) (by decide) (by decide) ?_
    show Steps p.tables e below (T2.setTop (mkF m 29 #[.val (.ref r1), .val (.ref r2), .unset] [])) _
    refine XS.aloadN X2.here hx rfl (hb hby d2_29) rfl rfl ?_
    show Steps p.tables e below (T2.setTop (mkF m 30 #[.val (.ref r1), .val (.ref r2), .unset] [(.ref r1)])) _
    refine st4 _ ?_
    show Steps p.tables e below (T4.setTop (mkF m 33 #[.val (.ref r1), .val (.ref r2), .unset] [(.int (1 : Int32))])) _
    refine XS.ifYes X4.here hx rfl (pc0 := 33) (pc' := 43) rfl (hb hby d2_33) rfl (by decide) (by decide) (by decide) ?_
    show Steps p.tables e below (T4.setTop (mkF m 43 #[.val (.ref r1), .val (.ref r2), .unset] [])) _
    refine XS.iconst X4.here hx rfl (hb hby d2_43) ?_
    show Steps p.tables e below (T4.setTop (mkF m 44 #[.val (.ref r1), .val (.ref r2), .unset] [(.int (0 : Int32))])) _
    refine XS.istoreN X4.here hx rfl (hb hby d2_44) rfl (l' := #[.val (.ref r1), .val (.ref r2), .val (.int (0 : Int32))]) rfl ?_
    show Steps p.tables e below (T4.setTop (mkF m 45 #[.val (.ref r1), .val (.ref r2), .val (.int (0 : Int32))] [])) _
    refine XS.goto X4.here hx rfl (pc0 := 45) (pc' := 147) rfl (hb hby d2_45) (by decide) (by decide) ?_
    show Steps p.tables e below (T4.setTop (mkF m 147 #[.val (.ref r1), .val (.ref r2), .val (.int (0 : Int32))] [])) _
    refine XS.iloadN X4.here hx rfl (hb hby d2_147) rfl ?_
    show Steps p.tables e below (T4.setTop (mkF m 148 #[.val (.ref r1), .val (.ref r2), .val (.int (0 : Int32))] [(.int (0 : Int32))])) _
    exact retN X4 hx (t := .boolean) Bd.returns (by simp) (hb hby d2_148) hr
  · show own_QP (some (.int (0 : Int32))) n0 h0 _ T4.heap _
    rw [e4]
    exact ⟨rfl, N0, rfl⟩
set_option maxRecDepth 65536 in
set_option maxHeartbeats 40000000 in
theorem comes_1 {Post : Tables → Env → Array Value → State → Outcome → State → Prop} (hpost : ∀ tb e args s v u, (limb_1_1.after args s (.returned v) u = true ∧ limb_1_2.after args s (.returned v) u = true ∧ True) → FrameEnd s (.returned v) u (Jvm.fieldLocs frame_1_writes args s ++ Jvm.arrayLocs frame_1_arrays args s ++ Jvm.staticLocs frame_1_statics s) 16 128 → Post tb e args s (.returned v) u) :
    ArmFor flags0 classFile x code maxLocals ret World_1 tables_1 room_1 Calls_1 rest_1 Pre_1 Post := by
  intro l hfl _ _ p e ha hc hk s m args below hf hA hF happ hP
  obtain ⟨hcalls, hrest, hpre⟩ := hP
  obtain ⟨-, -, -, hnamed, -, -, -, hat⟩ := (Spec.applies_iff hf).mp happ
  obtain ⟨hg, hn⟩ := and_e (Cond.before_iff.mp (show (Jvm.Cond.and given_1 narrow_1).before args s = true from hpre))
  obtain ⟨g1, g2⟩ := and_e hg
  obtain ⟨g3, g4⟩ := and_e g2
  obtain ⟨v0, v1, rfl⟩ : ∃ v0 v1 : Value, args = #[v0, v1] := by
    have hs : args.size = 2 := by simpa [Cond.value, given_1] using g1
    obtain ⟨L⟩ := args
    match L, hs with
    | [v0, v1], _ => exact ⟨v0, v1, rfl⟩
  have hw := fun d (hd : d ∈ tables_1) => atoms_spec (ws := Jvm.Cond.code x code maxLocals ret :: tables_1) hat d (List.mem_cons_of_mem _ hd)
  have hfit : Fit s := fun {y c} hc i hi => by
    obtain ⟨ha, rfl⟩ := Array.getElem?_eq_some_iff.mp hc
    have q := List.all_eq_true.mp ((Array.all_eq_true_iff_forall_mem.mp hF) _ (Array.getElem_mem ha)) i (List.mem_range.mpr hi)
    simpa [Array.getElem?_eq_getElem hi] using q
  obtain ⟨p1, ei0⟩ := is_v g3
  obtain rfl : v0 = (.int p1) := Option.some.inj ei0
  obtain ⟨p2, ei1⟩ := is_v g4
  obtain rfl : v1 = (.int p2) := Option.some.inj ei1
  obtain ⟨c1, c2⟩ := and_e hn
  obtain ⟨c3, c4⟩ := and_e c2
  obtain ⟨c5, c6⟩ := and_e c4
  obtain ⟨c7, c8⟩ := and_e c6
  obtain ⟨c9, c10⟩ := and_e c8
  obtain ⟨c11, c12⟩ := and_e c10
  obtain ⟨c13, c14⟩ := and_e c12
  obtain ⟨c15, c16⟩ := and_e c14
  obtain ⟨c17, c18⟩ := and_e c16
  obtain ⟨c19, c20⟩ := and_e c18
  obtain ⟨c21, c22⟩ := and_e c20
  obtain ⟨c23, c24⟩ := and_e c22
  obtain ⟨c25, c26⟩ := and_e c24
  obtain ⟨c27, c28⟩ := and_e c26
  obtain ⟨c29, c30⟩ := and_e c28
  obtain ⟨c31, c32⟩ := and_e c30
  obtain ⟨c33, c34⟩ := and_e c32
  obtain ⟨c35, c36⟩ := and_e c34
  obtain ⟨c37, c38⟩ := and_e c36
  obtain ⟨c39, c40⟩ := and_e c38
  obtain ⟨c41, c42⟩ := and_e c40
  obtain ⟨c43, c44⟩ := and_e c42
  obtain ⟨c45, c46⟩ := and_e c44
  obtain ⟨c47, c48⟩ := and_e c46
  obtain ⟨c49, c50⟩ := and_e c48
  obtain ⟨c51, c52⟩ := and_e c50
  obtain ⟨c53, c54⟩ := and_e c52
  obtain ⟨c55, c56⟩ := and_e c54
  obtain ⟨c57, c58⟩ := and_e c56
  obtain ⟨c59, c60⟩ := and_e c58
  obtain ⟨c61, c62⟩ := and_e c60
  obtain ⟨c63, c64⟩ := and_e c62
  obtain ⟨c65, c66⟩ := and_e c64
  obtain ⟨c67, c68⟩ := and_e c66
  obtain ⟨c69, c70⟩ := and_e c68
  obtain ⟨c71, c72⟩ := and_e c70
  obtain ⟨c73, c74⟩ := and_e c72
  obtain ⟨c75, c76⟩ := and_e c74
  obtain ⟨c77, c78⟩ := and_e c76
  obtain ⟨c79, c80⟩ := and_e c78
  obtain ⟨c81, c82⟩ := and_e c80
  obtain ⟨c83, c84⟩ := and_e c82
  obtain ⟨c85, c86⟩ := and_e c84
  obtain ⟨c87, c88⟩ := and_e c86
  obtain ⟨c89, c90⟩ := and_e c88
  obtain ⟨c91, c92⟩ := and_e c90
  obtain ⟨c93, c94⟩ := and_e c92
  obtain ⟨c95, c96⟩ := and_e c94
  obtain ⟨c97, c98⟩ := and_e c96
  obtain ⟨c99, c100⟩ := and_e c98
  obtain ⟨c101, c102⟩ := and_e c100
  obtain ⟨c103, c104⟩ := and_e c102
  obtain ⟨c105, c106⟩ := and_e c104
  obtain ⟨c107, c108⟩ := and_e c106
  obtain ⟨c109, c110⟩ := and_e c108
  obtain ⟨c111, c112⟩ := and_e c110
  obtain ⟨c113, c114⟩ := and_e c112
  obtain ⟨c115, c116⟩ := and_e c114
  obtain ⟨c117, c118⟩ := and_e c116
  obtain ⟨c119, c120⟩ := and_e c118
  obtain ⟨c121, c122⟩ := and_e c120
  obtain ⟨c123, c124⟩ := and_e c122
  obtain ⟨c125, c126⟩ := and_e c124
  obtain ⟨c127, c128⟩ := and_e c126
  obtain ⟨c129, c130⟩ := and_e c128
  obtain ⟨c131, c132⟩ := and_e c130
  obtain ⟨c133, c134⟩ := and_e c132
  obtain ⟨c135, c136⟩ := and_e c134
  obtain ⟨c137, c138⟩ := and_e c136
  obtain ⟨c139, c140⟩ := and_e c138
  obtain ⟨c141, c142⟩ := and_e c140
  obtain ⟨c143, c144⟩ := and_e c142
  obtain ⟨c145, c146⟩ := and_e c144
  obtain ⟨c147, c148⟩ := and_e c146
  obtain ⟨c149, c150⟩ := and_e c148
  obtain ⟨c151, c152⟩ := and_e c150
  obtain ⟨c153, c154⟩ := and_e c152
  obtain ⟨c155, c156⟩ := and_e c154
  obtain ⟨w_IX, ev_w_IX⟩ := exa_v c1
  have E_w_IX := Exa.start ev_w_IX c1
  have S_w_IX := Sta.start ev_w_IX (Or.inr ⟨(hw _ (List.mem_of_getElem? (i := 8) rfl)), (hw _ (List.mem_of_getElem? (i := 9) rfl))⟩)
  obtain ⟨w_IS, ev_w_IS⟩ := exa_v c3
  have E_w_IS := Exa.start ev_w_IS c3
  have S_w_IS := Sta.start ev_w_IS (Or.inr ⟨(hw _ (List.mem_of_getElem? (i := 8) rfl)), (hw _ (List.mem_of_getElem? (i := 12) rfl))⟩)
  obtain ⟨w_X, ev_w_X⟩ := exa_v c5
  have E_w_X := Exa.start ev_w_X c5
  have S_w_X := Sta.start ev_w_X (Or.inr ⟨(hw _ (List.mem_of_getElem? (i := 8) rfl)), (hw _ (List.mem_of_getElem? (i := 14) rfl))⟩)
  obtain ⟨w_X_REC_NOT_GAP, ev_w_X_REC_NOT_GAP⟩ := exa_v c7
  have E_w_X_REC_NOT_GAP := Exa.start ev_w_X_REC_NOT_GAP c7
  have S_w_X_REC_NOT_GAP := Sta.start ev_w_X_REC_NOT_GAP (Or.inr ⟨(hw _ (List.mem_of_getElem? (i := 8) rfl)), (hw _ (List.mem_of_getElem? (i := 16) rfl))⟩)
  obtain ⟨w_X_GAP, ev_w_X_GAP⟩ := exa_v c9
  have E_w_X_GAP := Exa.start ev_w_X_GAP c9
  have S_w_X_GAP := Sta.start ev_w_X_GAP (Or.inr ⟨(hw _ (List.mem_of_getElem? (i := 8) rfl)), (hw _ (List.mem_of_getElem? (i := 18) rfl))⟩)
  obtain ⟨w_S, ev_w_S⟩ := exa_v c11
  have E_w_S := Exa.start ev_w_S c11
  have S_w_S := Sta.start ev_w_S (Or.inr ⟨(hw _ (List.mem_of_getElem? (i := 8) rfl)), (hw _ (List.mem_of_getElem? (i := 20) rfl))⟩)
  obtain ⟨w_S_REC_NOT_GAP, ev_w_S_REC_NOT_GAP⟩ := exa_v c13
  have E_w_S_REC_NOT_GAP := Exa.start ev_w_S_REC_NOT_GAP c13
  have S_w_S_REC_NOT_GAP := Sta.start ev_w_S_REC_NOT_GAP (Or.inr ⟨(hw _ (List.mem_of_getElem? (i := 8) rfl)), (hw _ (List.mem_of_getElem? (i := 22) rfl))⟩)
  obtain ⟨w_S_GAP, ev_w_S_GAP⟩ := exa_v c15
  have E_w_S_GAP := Exa.start ev_w_S_GAP c15
  have S_w_S_GAP := Sta.start ev_w_S_GAP (Or.inr ⟨(hw _ (List.mem_of_getElem? (i := 8) rfl)), (hw _ (List.mem_of_getElem? (i := 24) rfl))⟩)
  obtain ⟨w_X_INSERT_INTENTION, ev_w_X_INSERT_INTENTION⟩ := exa_v c17
  have E_w_X_INSERT_INTENTION := Exa.start ev_w_X_INSERT_INTENTION c17
  have S_w_X_INSERT_INTENTION := Sta.start ev_w_X_INSERT_INTENTION (Or.inr ⟨(hw _ (List.mem_of_getElem? (i := 8) rfl)), (hw _ (List.mem_of_getElem? (i := 26) rfl))⟩)
  obtain ⟨w_AUTO_INC, ev_w_AUTO_INC⟩ := exa_v c19
  have E_w_AUTO_INC := Exa.start ev_w_AUTO_INC c19
  have S_w_AUTO_INC := Sta.start ev_w_AUTO_INC (Or.inr ⟨(hw _ (List.mem_of_getElem? (i := 8) rfl)), (hw _ (List.mem_of_getElem? (i := 28) rfl))⟩)
  have F_insertIntention_w_IX := own_fld c21 ev_w_IX
  have F_insertIntention_w_X_REC_NOT_GAP := own_fld c23 ev_w_X_REC_NOT_GAP
  have F_ordinal_w_IX := own_fld c25 ev_w_IX
  have F_ordinal_w_X_REC_NOT_GAP := own_fld c27 ev_w_X_REC_NOT_GAP
  have F_keyLock_w_IX := own_fld c29 ev_w_IX
  have F_keyLock_w_X_REC_NOT_GAP := own_fld c31 ev_w_X_REC_NOT_GAP
  have F_intention_w_IX := own_fld c33 ev_w_IX
  have F_intention_w_X_REC_NOT_GAP := own_fld c35 ev_w_X_REC_NOT_GAP
  have F_insertIntention_w_X_GAP := own_fld c37 ev_w_X_GAP
  have F_insertIntention_w_IS := own_fld c39 ev_w_IS
  have F_ordinal_w_X_GAP := own_fld c41 ev_w_X_GAP
  have F_ordinal_w_IS := own_fld c43 ev_w_IS
  have F_keyLock_w_X_GAP := own_fld c45 ev_w_X_GAP
  have F_keyLock_w_IS := own_fld c47 ev_w_IS
  have F_intention_w_X_GAP := own_fld c49 ev_w_X_GAP
  have F_intention_w_IS := own_fld c51 ev_w_IS
  have F_insertIntention_w_X_INSERT_INTENTION := own_fld c53 ev_w_X_INSERT_INTENTION
  have F_insertIntention_w_S_REC_NOT_GAP := own_fld c55 ev_w_S_REC_NOT_GAP
  have F_ordinal_w_S_REC_NOT_GAP := own_fld c57 ev_w_S_REC_NOT_GAP
  have F_keyLock_w_S_REC_NOT_GAP := own_fld c59 ev_w_S_REC_NOT_GAP
  have F_intention_w_S_REC_NOT_GAP := own_fld c61 ev_w_S_REC_NOT_GAP
  have F_insertIntention_w_AUTO_INC := own_fld c63 ev_w_AUTO_INC
  have F_ordinal_w_AUTO_INC := own_fld c65 ev_w_AUTO_INC
  have F_keyLock_w_AUTO_INC := own_fld c67 ev_w_AUTO_INC
  have F_insertIntention_w_X := own_fld c69 ev_w_X
  have F_insertIntention_w_S := own_fld c71 ev_w_S
  have F_ordinal_w_X := own_fld c73 ev_w_X
  have F_ordinal_w_S := own_fld c75 ev_w_S
  have F_keyLock_w_X := own_fld c77 ev_w_X
  have F_keyLock_w_S := own_fld c79 ev_w_S
  have F_intention_w_X := own_fld c81 ev_w_X
  have F_intention_w_S := own_fld c83 ev_w_S
  have F_shared_w_X := own_fld c85 ev_w_X
  have F_coversTarget_w_X := own_fld c87 ev_w_X
  have F_coversGap_w_X := own_fld c89 ev_w_X
  have F_insertIntention_w_S_GAP := own_fld c91 ev_w_S_GAP
  have F_ordinal_w_S_GAP := own_fld c93 ev_w_S_GAP
  have F_keyLock_w_S_GAP := own_fld c95 ev_w_S_GAP
  have F_intention_w_S_GAP := own_fld c97 ev_w_S_GAP
  have F_shared_w_S := own_fld c99 ev_w_S
  have F_shared_w_X_GAP := own_fld c101 ev_w_X_GAP
  have F_shared_w_S_REC_NOT_GAP := own_fld c103 ev_w_S_REC_NOT_GAP
  have F_coversTarget_w_X_GAP := own_fld c105 ev_w_X_GAP
  have F_coversTarget_w_X_REC_NOT_GAP := own_fld c107 ev_w_X_REC_NOT_GAP
  have F_shared_w_S_GAP := own_fld c109 ev_w_S_GAP
  have F_coversTarget_w_S_REC_NOT_GAP := own_fld c111 ev_w_S_REC_NOT_GAP
  have F_coversGap_w_S_REC_NOT_GAP := own_fld c113 ev_w_S_REC_NOT_GAP
  have F_coversGap_w_S_GAP := own_fld c115 ev_w_S_GAP
  have F_shared_w_IS := own_fld c117 ev_w_IS
  have F_shared_w_IX := own_fld c119 ev_w_IX
  have F_shared_w_X_REC_NOT_GAP := own_fld c121 ev_w_X_REC_NOT_GAP
  have F_coversTarget_w_S_GAP := own_fld c123 ev_w_S_GAP
  have F_coversTarget_w_S := own_fld c125 ev_w_S
  have F_coversGap_w_X_REC_NOT_GAP := own_fld c127 ev_w_X_REC_NOT_GAP
  have F_coversGap_w_S := own_fld c129 ev_w_S
  have F_coversGap_w_X_GAP := own_fld c131 ev_w_X_GAP
  have F_coversTarget_w_IX := own_fld c133 ev_w_IX
  have F_coversGap_w_IX := own_fld c135 ev_w_IX
  have F_coversTarget_w_IS := own_fld c137 ev_w_IS
  have F_coversGap_w_IS := own_fld c139 ev_w_IS
  have F_keyLock_w_X_INSERT_INTENTION := own_fld c141 ev_w_X_INSERT_INTENTION
  have F_intention_w_X_INSERT_INTENTION := own_fld c143 ev_w_X_INSERT_INTENTION
  have F_shared_w_X_INSERT_INTENTION := own_fld c145 ev_w_X_INSERT_INTENTION
  have F_coversTarget_w_X_INSERT_INTENTION := own_fld c147 ev_w_X_INSERT_INTENTION
  have F_coversGap_w_X_INSERT_INTENTION := own_fld c149 ev_w_X_INSERT_INTENTION
  have F_intention_w_AUTO_INC := own_fld c151 ev_w_AUTO_INC
  have F_shared_w_AUTO_INC := own_fld c153 ev_w_AUTO_INC
  have F_coversTarget_w_AUTO_INC := own_fld c155 ev_w_AUTO_INC
  have F_coversGap_w_AUTO_INC := own_fld c156 ev_w_AUTO_INC
  have key : MetFree l x (head1 (Jvm.Cond.code x code maxLocals ret :: tables_1) room_1) (fun a U => a = #[(.int p1), (.int p2)] ∧ s.Warmed39 U.vm ∧ U.heap = s.heap) (fun _ _ _ _ _ => True) (fun _ U o U' => ∃ v L, o = .returned v ∧ own_Q1 s.heap.size v U'.heap L ∧ FrameEnd U o U' L room_1.cells room_1.slots) := by
    have hm_p1 : (p1 &&& (2147483647 : Int32)).toInt = p1.toInt % 2147483648 := c_mask p1 2147483647 31 (by decide) (by decide)
    have hr_p1 : ((p1 &&& (2147483647 : Int32)) % (10 : Int32)).toInt = (p1 &&& (2147483647 : Int32)).toInt % 10 := (c_irem (p1 &&& (2147483647 : Int32)) (10 : Int32) 10 rfl).1 (by omega)
    have hc_p1 : ((p1 &&& (2147483647 : Int32)) % (10 : Int32)) = (0 : Int32) ∨ ((p1 &&& (2147483647 : Int32)) % (10 : Int32)) = (1 : Int32) ∨ ((p1 &&& (2147483647 : Int32)) % (10 : Int32)) = (2 : Int32) ∨ ((p1 &&& (2147483647 : Int32)) % (10 : Int32)) = (3 : Int32) ∨ ((p1 &&& (2147483647 : Int32)) % (10 : Int32)) = (4 : Int32) ∨ ((p1 &&& (2147483647 : Int32)) % (10 : Int32)) = (5 : Int32) ∨ ((p1 &&& (2147483647 : Int32)) % (10 : Int32)) = (6 : Int32) ∨ ((p1 &&& (2147483647 : Int32)) % (10 : Int32)) = (7 : Int32) ∨ ((p1 &&& (2147483647 : Int32)) % (10 : Int32)) = (8 : Int32) ∨ ((p1 &&& (2147483647 : Int32)) % (10 : Int32)) = (9 : Int32) := by
      have z0 : (0 : Int32).toInt = 0 := rfl
      have z1 : (1 : Int32).toInt = 1 := rfl
      have z2 : (2 : Int32).toInt = 2 := rfl
      have z3 : (3 : Int32).toInt = 3 := rfl
      have z4 : (4 : Int32).toInt = 4 := rfl
      have z5 : (5 : Int32).toInt = 5 := rfl
      have z6 : (6 : Int32).toInt = 6 := rfl
      have z7 : (7 : Int32).toInt = 7 := rfl
      have z8 : (8 : Int32).toInt = 8 := rfl
      have z9 : (9 : Int32).toInt = 9 := rfl
      simp only [← Int32.toInt_inj, z0, z1, z2, z3, z4, z5, z6, z7, z8, z9]
      omega
    have hm_p2 : (p2 &&& (2147483647 : Int32)).toInt = p2.toInt % 2147483648 := c_mask p2 2147483647 31 (by decide) (by decide)
    have hr_p2 : ((p2 &&& (2147483647 : Int32)) % (10 : Int32)).toInt = (p2 &&& (2147483647 : Int32)).toInt % 10 := (c_irem (p2 &&& (2147483647 : Int32)) (10 : Int32) 10 rfl).1 (by omega)
    have hc_p2 : ((p2 &&& (2147483647 : Int32)) % (10 : Int32)) = (0 : Int32) ∨ ((p2 &&& (2147483647 : Int32)) % (10 : Int32)) = (1 : Int32) ∨ ((p2 &&& (2147483647 : Int32)) % (10 : Int32)) = (2 : Int32) ∨ ((p2 &&& (2147483647 : Int32)) % (10 : Int32)) = (3 : Int32) ∨ ((p2 &&& (2147483647 : Int32)) % (10 : Int32)) = (4 : Int32) ∨ ((p2 &&& (2147483647 : Int32)) % (10 : Int32)) = (5 : Int32) ∨ ((p2 &&& (2147483647 : Int32)) % (10 : Int32)) = (6 : Int32) ∨ ((p2 &&& (2147483647 : Int32)) % (10 : Int32)) = (7 : Int32) ∨ ((p2 &&& (2147483647 : Int32)) % (10 : Int32)) = (8 : Int32) ∨ ((p2 &&& (2147483647 : Int32)) % (10 : Int32)) = (9 : Int32) := by
      have z0 : (0 : Int32).toInt = 0 := rfl
      have z1 : (1 : Int32).toInt = 1 := rfl
      have z2 : (2 : Int32).toInt = 2 := rfl
      have z3 : (3 : Int32).toInt = 3 := rfl
      have z4 : (4 : Int32).toInt = 4 := rfl
      have z5 : (5 : Int32).toInt = 5 := rfl
      have z6 : (6 : Int32).toInt = 6 := rfl
      have z7 : (7 : Int32).toInt = 7 := rfl
      have z8 : (8 : Int32).toInt = 8 := rfl
      have z9 : (9 : Int32).toInt = 9 := rfl
      simp only [← Int32.toInt_inj, z0, z1, z2, z3, z4, z5, z6, z7, z8, z9]
      omega
    rcases hc_p1 with h1 | h1 | h1 | h1 | h1 | h1 | h1 | h1 | h1 | h1 <;> rcases hc_p2 with h2 | h2 | h2 | h2 | h2 | h2 | h2 | h2 | h2 | h2
    · exact law_0 l s _ hw tables_1 p1 p2 (0 : Int32) (0 : Int32) w_IX w_IX (1 : Int32) s.heap s.heap.size (Old.start s) h1 h2 (fun h O => rm1_0 l s _ hw (0 : Int32) w_IX w_IS w_X w_X_REC_NOT_GAP w_X_GAP w_S w_S_REC_NOT_GAP w_S_GAP w_X_INSERT_INTENTION w_AUTO_INC w_IX h s.heap.size O S_w_IX E_w_IX S_w_IS E_w_IS S_w_X E_w_X S_w_X_REC_NOT_GAP E_w_X_REC_NOT_GAP S_w_X_GAP E_w_X_GAP S_w_S E_w_S S_w_S_REC_NOT_GAP E_w_S_REC_NOT_GAP S_w_S_GAP E_w_S_GAP S_w_X_INSERT_INTENTION E_w_X_INSERT_INTENTION S_w_AUTO_INC E_w_AUTO_INC (by decide) (by decide) rfl) (fun h O => rm1_0 l s _ hw (0 : Int32) w_IX w_IS w_X w_X_REC_NOT_GAP w_X_GAP w_S w_S_REC_NOT_GAP w_S_GAP w_X_INSERT_INTENTION w_AUTO_INC w_IX h s.heap.size O S_w_IX E_w_IX S_w_IS E_w_IS S_w_X E_w_X S_w_X_REC_NOT_GAP E_w_X_REC_NOT_GAP S_w_X_GAP E_w_X_GAP S_w_S E_w_S S_w_S_REC_NOT_GAP E_w_S_REC_NOT_GAP S_w_S_GAP E_w_S_GAP S_w_X_INSERT_INTENTION E_w_X_INSERT_INTENTION S_w_AUTO_INC E_w_AUTO_INC (by decide) (by decide) rfl) E_w_IX (fun h O => rm2_0 l s _ hw w_IX h s.heap.size O (F_insertIntention_w_IX.ext O.2)) (fun h O => rm3_1 l s _ hw (0 : Int32) (0 : Int32) (3 : Int32) h s.heap.size O (by decide) (by decide) rfl (by decide))
    · exact law_0 l s _ hw tables_1 p1 p2 (0 : Int32) (1 : Int32) w_IX w_IS (1 : Int32) s.heap s.heap.size (Old.start s) h1 h2 (fun h O => rm1_0 l s _ hw (0 : Int32) w_IX w_IS w_X w_X_REC_NOT_GAP w_X_GAP w_S w_S_REC_NOT_GAP w_S_GAP w_X_INSERT_INTENTION w_AUTO_INC w_IX h s.heap.size O S_w_IX E_w_IX S_w_IS E_w_IS S_w_X E_w_X S_w_X_REC_NOT_GAP E_w_X_REC_NOT_GAP S_w_X_GAP E_w_X_GAP S_w_S E_w_S S_w_S_REC_NOT_GAP E_w_S_REC_NOT_GAP S_w_S_GAP E_w_S_GAP S_w_X_INSERT_INTENTION E_w_X_INSERT_INTENTION S_w_AUTO_INC E_w_AUTO_INC (by decide) (by decide) rfl) (fun h O => rm1_0 l s _ hw (1 : Int32) w_IX w_IS w_X w_X_REC_NOT_GAP w_X_GAP w_S w_S_REC_NOT_GAP w_S_GAP w_X_INSERT_INTENTION w_AUTO_INC w_IS h s.heap.size O S_w_IX E_w_IX S_w_IS E_w_IS S_w_X E_w_X S_w_X_REC_NOT_GAP E_w_X_REC_NOT_GAP S_w_X_GAP E_w_X_GAP S_w_S E_w_S S_w_S_REC_NOT_GAP E_w_S_REC_NOT_GAP S_w_S_GAP E_w_S_GAP S_w_X_INSERT_INTENTION E_w_X_INSERT_INTENTION S_w_AUTO_INC E_w_AUTO_INC (by decide) (by decide) rfl) E_w_IX (fun h O => rm2_1 l s _ hw w_IX w_IS h s.heap.size O (F_insertIntention_w_IX.ext O.2) (F_insertIntention_w_IS.ext O.2) (Fld.ne F_ordinal_w_IX F_ordinal_w_IS (by decide)) (F_keyLock_w_IX.ext O.2) (F_keyLock_w_IS.ext O.2) (F_intention_w_IX.ext O.2) (F_intention_w_IS.ext O.2) (F_shared_w_IX.ext O.2)) (fun h O => rm3_1 l s _ hw (0 : Int32) (1 : Int32) (3 : Int32) h s.heap.size O (by decide) (by decide) rfl (by decide))
    · exact law_0 l s _ hw tables_1 p1 p2 (0 : Int32) (2 : Int32) w_IX w_X (0 : Int32) s.heap s.heap.size (Old.start s) h1 h2 (fun h O => rm1_0 l s _ hw (0 : Int32) w_IX w_IS w_X w_X_REC_NOT_GAP w_X_GAP w_S w_S_REC_NOT_GAP w_S_GAP w_X_INSERT_INTENTION w_AUTO_INC w_IX h s.heap.size O S_w_IX E_w_IX S_w_IS E_w_IS S_w_X E_w_X S_w_X_REC_NOT_GAP E_w_X_REC_NOT_GAP S_w_X_GAP E_w_X_GAP S_w_S E_w_S S_w_S_REC_NOT_GAP E_w_S_REC_NOT_GAP S_w_S_GAP E_w_S_GAP S_w_X_INSERT_INTENTION E_w_X_INSERT_INTENTION S_w_AUTO_INC E_w_AUTO_INC (by decide) (by decide) rfl) (fun h O => rm1_0 l s _ hw (2 : Int32) w_IX w_IS w_X w_X_REC_NOT_GAP w_X_GAP w_S w_S_REC_NOT_GAP w_S_GAP w_X_INSERT_INTENTION w_AUTO_INC w_X h s.heap.size O S_w_IX E_w_IX S_w_IS E_w_IS S_w_X E_w_X S_w_X_REC_NOT_GAP E_w_X_REC_NOT_GAP S_w_X_GAP E_w_X_GAP S_w_S E_w_S S_w_S_REC_NOT_GAP E_w_S_REC_NOT_GAP S_w_S_GAP E_w_S_GAP S_w_X_INSERT_INTENTION E_w_X_INSERT_INTENTION S_w_AUTO_INC E_w_AUTO_INC (by decide) (by decide) rfl) E_w_IX (fun h O => rm2_2 l s _ hw w_IX w_X h s.heap.size O (F_insertIntention_w_IX.ext O.2) (F_insertIntention_w_X.ext O.2) (Fld.ne F_ordinal_w_IX F_ordinal_w_X (by decide)) (F_keyLock_w_IX.ext O.2) (F_keyLock_w_X.ext O.2) (F_intention_w_IX.ext O.2) (F_intention_w_X.ext O.2)) (fun h O => rm3_0 l s _ hw (0 : Int32) (2 : Int32) (3 : Int32) h s.heap.size O (by decide) (by decide) rfl (by decide))
    · exact law_0 l s _ hw tables_1 p1 p2 (0 : Int32) (3 : Int32) w_IX w_X_REC_NOT_GAP (0 : Int32) s.heap s.heap.size (Old.start s) h1 h2 (fun h O => rm1_0 l s _ hw (0 : Int32) w_IX w_IS w_X w_X_REC_NOT_GAP w_X_GAP w_S w_S_REC_NOT_GAP w_S_GAP w_X_INSERT_INTENTION w_AUTO_INC w_IX h s.heap.size O S_w_IX E_w_IX S_w_IS E_w_IS S_w_X E_w_X S_w_X_REC_NOT_GAP E_w_X_REC_NOT_GAP S_w_X_GAP E_w_X_GAP S_w_S E_w_S S_w_S_REC_NOT_GAP E_w_S_REC_NOT_GAP S_w_S_GAP E_w_S_GAP S_w_X_INSERT_INTENTION E_w_X_INSERT_INTENTION S_w_AUTO_INC E_w_AUTO_INC (by decide) (by decide) rfl) (fun h O => rm1_0 l s _ hw (3 : Int32) w_IX w_IS w_X w_X_REC_NOT_GAP w_X_GAP w_S w_S_REC_NOT_GAP w_S_GAP w_X_INSERT_INTENTION w_AUTO_INC w_X_REC_NOT_GAP h s.heap.size O S_w_IX E_w_IX S_w_IS E_w_IS S_w_X E_w_X S_w_X_REC_NOT_GAP E_w_X_REC_NOT_GAP S_w_X_GAP E_w_X_GAP S_w_S E_w_S S_w_S_REC_NOT_GAP E_w_S_REC_NOT_GAP S_w_S_GAP E_w_S_GAP S_w_X_INSERT_INTENTION E_w_X_INSERT_INTENTION S_w_AUTO_INC E_w_AUTO_INC (by decide) (by decide) rfl) E_w_IX (fun h O => rm2_2 l s _ hw w_IX w_X_REC_NOT_GAP h s.heap.size O (F_insertIntention_w_IX.ext O.2) (F_insertIntention_w_X_REC_NOT_GAP.ext O.2) (Fld.ne F_ordinal_w_IX F_ordinal_w_X_REC_NOT_GAP (by decide)) (F_keyLock_w_IX.ext O.2) (F_keyLock_w_X_REC_NOT_GAP.ext O.2) (F_intention_w_IX.ext O.2) (F_intention_w_X_REC_NOT_GAP.ext O.2)) (fun h O => rm3_0 l s _ hw (0 : Int32) (3 : Int32) (3 : Int32) h s.heap.size O (by decide) (by decide) rfl (by decide))
    · exact law_0 l s _ hw tables_1 p1 p2 (0 : Int32) (4 : Int32) w_IX w_X_GAP (0 : Int32) s.heap s.heap.size (Old.start s) h1 h2 (fun h O => rm1_0 l s _ hw (0 : Int32) w_IX w_IS w_X w_X_REC_NOT_GAP w_X_GAP w_S w_S_REC_NOT_GAP w_S_GAP w_X_INSERT_INTENTION w_AUTO_INC w_IX h s.heap.size O S_w_IX E_w_IX S_w_IS E_w_IS S_w_X E_w_X S_w_X_REC_NOT_GAP E_w_X_REC_NOT_GAP S_w_X_GAP E_w_X_GAP S_w_S E_w_S S_w_S_REC_NOT_GAP E_w_S_REC_NOT_GAP S_w_S_GAP E_w_S_GAP S_w_X_INSERT_INTENTION E_w_X_INSERT_INTENTION S_w_AUTO_INC E_w_AUTO_INC (by decide) (by decide) rfl) (fun h O => rm1_0 l s _ hw (4 : Int32) w_IX w_IS w_X w_X_REC_NOT_GAP w_X_GAP w_S w_S_REC_NOT_GAP w_S_GAP w_X_INSERT_INTENTION w_AUTO_INC w_X_GAP h s.heap.size O S_w_IX E_w_IX S_w_IS E_w_IS S_w_X E_w_X S_w_X_REC_NOT_GAP E_w_X_REC_NOT_GAP S_w_X_GAP E_w_X_GAP S_w_S E_w_S S_w_S_REC_NOT_GAP E_w_S_REC_NOT_GAP S_w_S_GAP E_w_S_GAP S_w_X_INSERT_INTENTION E_w_X_INSERT_INTENTION S_w_AUTO_INC E_w_AUTO_INC (by decide) (by decide) rfl) E_w_IX (fun h O => rm2_2 l s _ hw w_IX w_X_GAP h s.heap.size O (F_insertIntention_w_IX.ext O.2) (F_insertIntention_w_X_GAP.ext O.2) (Fld.ne F_ordinal_w_IX F_ordinal_w_X_GAP (by decide)) (F_keyLock_w_IX.ext O.2) (F_keyLock_w_X_GAP.ext O.2) (F_intention_w_IX.ext O.2) (F_intention_w_X_GAP.ext O.2)) (fun h O => rm3_0 l s _ hw (0 : Int32) (4 : Int32) (3 : Int32) h s.heap.size O (by decide) (by decide) rfl (by decide))
    · exact law_0 l s _ hw tables_1 p1 p2 (0 : Int32) (5 : Int32) w_IX w_S (0 : Int32) s.heap s.heap.size (Old.start s) h1 h2 (fun h O => rm1_0 l s _ hw (0 : Int32) w_IX w_IS w_X w_X_REC_NOT_GAP w_X_GAP w_S w_S_REC_NOT_GAP w_S_GAP w_X_INSERT_INTENTION w_AUTO_INC w_IX h s.heap.size O S_w_IX E_w_IX S_w_IS E_w_IS S_w_X E_w_X S_w_X_REC_NOT_GAP E_w_X_REC_NOT_GAP S_w_X_GAP E_w_X_GAP S_w_S E_w_S S_w_S_REC_NOT_GAP E_w_S_REC_NOT_GAP S_w_S_GAP E_w_S_GAP S_w_X_INSERT_INTENTION E_w_X_INSERT_INTENTION S_w_AUTO_INC E_w_AUTO_INC (by decide) (by decide) rfl) (fun h O => rm1_0 l s _ hw (5 : Int32) w_IX w_IS w_X w_X_REC_NOT_GAP w_X_GAP w_S w_S_REC_NOT_GAP w_S_GAP w_X_INSERT_INTENTION w_AUTO_INC w_S h s.heap.size O S_w_IX E_w_IX S_w_IS E_w_IS S_w_X E_w_X S_w_X_REC_NOT_GAP E_w_X_REC_NOT_GAP S_w_X_GAP E_w_X_GAP S_w_S E_w_S S_w_S_REC_NOT_GAP E_w_S_REC_NOT_GAP S_w_S_GAP E_w_S_GAP S_w_X_INSERT_INTENTION E_w_X_INSERT_INTENTION S_w_AUTO_INC E_w_AUTO_INC (by decide) (by decide) rfl) E_w_IX (fun h O => rm2_2 l s _ hw w_IX w_S h s.heap.size O (F_insertIntention_w_IX.ext O.2) (F_insertIntention_w_S.ext O.2) (Fld.ne F_ordinal_w_IX F_ordinal_w_S (by decide)) (F_keyLock_w_IX.ext O.2) (F_keyLock_w_S.ext O.2) (F_intention_w_IX.ext O.2) (F_intention_w_S.ext O.2)) (fun h O => rm3_0 l s _ hw (0 : Int32) (5 : Int32) (3 : Int32) h s.heap.size O (by decide) (by decide) rfl (by decide))
    · exact law_0 l s _ hw tables_1 p1 p2 (0 : Int32) (6 : Int32) w_IX w_S_REC_NOT_GAP (0 : Int32) s.heap s.heap.size (Old.start s) h1 h2 (fun h O => rm1_0 l s _ hw (0 : Int32) w_IX w_IS w_X w_X_REC_NOT_GAP w_X_GAP w_S w_S_REC_NOT_GAP w_S_GAP w_X_INSERT_INTENTION w_AUTO_INC w_IX h s.heap.size O S_w_IX E_w_IX S_w_IS E_w_IS S_w_X E_w_X S_w_X_REC_NOT_GAP E_w_X_REC_NOT_GAP S_w_X_GAP E_w_X_GAP S_w_S E_w_S S_w_S_REC_NOT_GAP E_w_S_REC_NOT_GAP S_w_S_GAP E_w_S_GAP S_w_X_INSERT_INTENTION E_w_X_INSERT_INTENTION S_w_AUTO_INC E_w_AUTO_INC (by decide) (by decide) rfl) (fun h O => rm1_0 l s _ hw (6 : Int32) w_IX w_IS w_X w_X_REC_NOT_GAP w_X_GAP w_S w_S_REC_NOT_GAP w_S_GAP w_X_INSERT_INTENTION w_AUTO_INC w_S_REC_NOT_GAP h s.heap.size O S_w_IX E_w_IX S_w_IS E_w_IS S_w_X E_w_X S_w_X_REC_NOT_GAP E_w_X_REC_NOT_GAP S_w_X_GAP E_w_X_GAP S_w_S E_w_S S_w_S_REC_NOT_GAP E_w_S_REC_NOT_GAP S_w_S_GAP E_w_S_GAP S_w_X_INSERT_INTENTION E_w_X_INSERT_INTENTION S_w_AUTO_INC E_w_AUTO_INC (by decide) (by decide) rfl) E_w_IX (fun h O => rm2_2 l s _ hw w_IX w_S_REC_NOT_GAP h s.heap.size O (F_insertIntention_w_IX.ext O.2) (F_insertIntention_w_S_REC_NOT_GAP.ext O.2) (Fld.ne F_ordinal_w_IX F_ordinal_w_S_REC_NOT_GAP (by decide)) (F_keyLock_w_IX.ext O.2) (F_keyLock_w_S_REC_NOT_GAP.ext O.2) (F_intention_w_IX.ext O.2) (F_intention_w_S_REC_NOT_GAP.ext O.2)) (fun h O => rm3_0 l s _ hw (0 : Int32) (6 : Int32) (3 : Int32) h s.heap.size O (by decide) (by decide) rfl (by decide))
    · exact law_0 l s _ hw tables_1 p1 p2 (0 : Int32) (7 : Int32) w_IX w_S_GAP (0 : Int32) s.heap s.heap.size (Old.start s) h1 h2 (fun h O => rm1_0 l s _ hw (0 : Int32) w_IX w_IS w_X w_X_REC_NOT_GAP w_X_GAP w_S w_S_REC_NOT_GAP w_S_GAP w_X_INSERT_INTENTION w_AUTO_INC w_IX h s.heap.size O S_w_IX E_w_IX S_w_IS E_w_IS S_w_X E_w_X S_w_X_REC_NOT_GAP E_w_X_REC_NOT_GAP S_w_X_GAP E_w_X_GAP S_w_S E_w_S S_w_S_REC_NOT_GAP E_w_S_REC_NOT_GAP S_w_S_GAP E_w_S_GAP S_w_X_INSERT_INTENTION E_w_X_INSERT_INTENTION S_w_AUTO_INC E_w_AUTO_INC (by decide) (by decide) rfl) (fun h O => rm1_0 l s _ hw (7 : Int32) w_IX w_IS w_X w_X_REC_NOT_GAP w_X_GAP w_S w_S_REC_NOT_GAP w_S_GAP w_X_INSERT_INTENTION w_AUTO_INC w_S_GAP h s.heap.size O S_w_IX E_w_IX S_w_IS E_w_IS S_w_X E_w_X S_w_X_REC_NOT_GAP E_w_X_REC_NOT_GAP S_w_X_GAP E_w_X_GAP S_w_S E_w_S S_w_S_REC_NOT_GAP E_w_S_REC_NOT_GAP S_w_S_GAP E_w_S_GAP S_w_X_INSERT_INTENTION E_w_X_INSERT_INTENTION S_w_AUTO_INC E_w_AUTO_INC (by decide) (by decide) rfl) E_w_IX (fun h O => rm2_2 l s _ hw w_IX w_S_GAP h s.heap.size O (F_insertIntention_w_IX.ext O.2) (F_insertIntention_w_S_GAP.ext O.2) (Fld.ne F_ordinal_w_IX F_ordinal_w_S_GAP (by decide)) (F_keyLock_w_IX.ext O.2) (F_keyLock_w_S_GAP.ext O.2) (F_intention_w_IX.ext O.2) (F_intention_w_S_GAP.ext O.2)) (fun h O => rm3_0 l s _ hw (0 : Int32) (7 : Int32) (3 : Int32) h s.heap.size O (by decide) (by decide) rfl (by decide))
    · exact law_0 l s _ hw tables_1 p1 p2 (0 : Int32) (8 : Int32) w_IX w_X_INSERT_INTENTION (0 : Int32) s.heap s.heap.size (Old.start s) h1 h2 (fun h O => rm1_0 l s _ hw (0 : Int32) w_IX w_IS w_X w_X_REC_NOT_GAP w_X_GAP w_S w_S_REC_NOT_GAP w_S_GAP w_X_INSERT_INTENTION w_AUTO_INC w_IX h s.heap.size O S_w_IX E_w_IX S_w_IS E_w_IS S_w_X E_w_X S_w_X_REC_NOT_GAP E_w_X_REC_NOT_GAP S_w_X_GAP E_w_X_GAP S_w_S E_w_S S_w_S_REC_NOT_GAP E_w_S_REC_NOT_GAP S_w_S_GAP E_w_S_GAP S_w_X_INSERT_INTENTION E_w_X_INSERT_INTENTION S_w_AUTO_INC E_w_AUTO_INC (by decide) (by decide) rfl) (fun h O => rm1_0 l s _ hw (8 : Int32) w_IX w_IS w_X w_X_REC_NOT_GAP w_X_GAP w_S w_S_REC_NOT_GAP w_S_GAP w_X_INSERT_INTENTION w_AUTO_INC w_X_INSERT_INTENTION h s.heap.size O S_w_IX E_w_IX S_w_IS E_w_IS S_w_X E_w_X S_w_X_REC_NOT_GAP E_w_X_REC_NOT_GAP S_w_X_GAP E_w_X_GAP S_w_S E_w_S S_w_S_REC_NOT_GAP E_w_S_REC_NOT_GAP S_w_S_GAP E_w_S_GAP S_w_X_INSERT_INTENTION E_w_X_INSERT_INTENTION S_w_AUTO_INC E_w_AUTO_INC (by decide) (by decide) rfl) E_w_IX (fun h O => rm2_3 l s _ hw w_IX w_X_INSERT_INTENTION h s.heap.size O (F_insertIntention_w_IX.ext O.2) (F_insertIntention_w_X_INSERT_INTENTION.ext O.2)) (fun h O => rm3_0 l s _ hw (0 : Int32) (8 : Int32) (3 : Int32) h s.heap.size O (by decide) (by decide) rfl (by decide))
    · exact law_0 l s _ hw tables_1 p1 p2 (0 : Int32) (9 : Int32) w_IX w_AUTO_INC (0 : Int32) s.heap s.heap.size (Old.start s) h1 h2 (fun h O => rm1_0 l s _ hw (0 : Int32) w_IX w_IS w_X w_X_REC_NOT_GAP w_X_GAP w_S w_S_REC_NOT_GAP w_S_GAP w_X_INSERT_INTENTION w_AUTO_INC w_IX h s.heap.size O S_w_IX E_w_IX S_w_IS E_w_IS S_w_X E_w_X S_w_X_REC_NOT_GAP E_w_X_REC_NOT_GAP S_w_X_GAP E_w_X_GAP S_w_S E_w_S S_w_S_REC_NOT_GAP E_w_S_REC_NOT_GAP S_w_S_GAP E_w_S_GAP S_w_X_INSERT_INTENTION E_w_X_INSERT_INTENTION S_w_AUTO_INC E_w_AUTO_INC (by decide) (by decide) rfl) (fun h O => rm1_0 l s _ hw (9 : Int32) w_IX w_IS w_X w_X_REC_NOT_GAP w_X_GAP w_S w_S_REC_NOT_GAP w_S_GAP w_X_INSERT_INTENTION w_AUTO_INC w_AUTO_INC h s.heap.size O S_w_IX E_w_IX S_w_IS E_w_IS S_w_X E_w_X S_w_X_REC_NOT_GAP E_w_X_REC_NOT_GAP S_w_X_GAP E_w_X_GAP S_w_S E_w_S S_w_S_REC_NOT_GAP E_w_S_REC_NOT_GAP S_w_S_GAP E_w_S_GAP S_w_X_INSERT_INTENTION E_w_X_INSERT_INTENTION S_w_AUTO_INC E_w_AUTO_INC (by decide) (by decide) rfl) E_w_IX (fun h O => rm2_4 l s _ hw w_IX w_AUTO_INC h s.heap.size O (F_insertIntention_w_IX.ext O.2) (F_insertIntention_w_AUTO_INC.ext O.2) (Fld.ne F_ordinal_w_IX F_ordinal_w_AUTO_INC (by decide)) (F_keyLock_w_IX.ext O.2) (F_keyLock_w_AUTO_INC.ext O.2)) (fun h O => rm3_0 l s _ hw (0 : Int32) (9 : Int32) (3 : Int32) h s.heap.size O (by decide) (by decide) rfl (by decide))
    · exact law_0 l s _ hw tables_1 p1 p2 (1 : Int32) (0 : Int32) w_IS w_IX (0 : Int32) s.heap s.heap.size (Old.start s) h1 h2 (fun h O => rm1_0 l s _ hw (1 : Int32) w_IX w_IS w_X w_X_REC_NOT_GAP w_X_GAP w_S w_S_REC_NOT_GAP w_S_GAP w_X_INSERT_INTENTION w_AUTO_INC w_IS h s.heap.size O S_w_IX E_w_IX S_w_IS E_w_IS S_w_X E_w_X S_w_X_REC_NOT_GAP E_w_X_REC_NOT_GAP S_w_X_GAP E_w_X_GAP S_w_S E_w_S S_w_S_REC_NOT_GAP E_w_S_REC_NOT_GAP S_w_S_GAP E_w_S_GAP S_w_X_INSERT_INTENTION E_w_X_INSERT_INTENTION S_w_AUTO_INC E_w_AUTO_INC (by decide) (by decide) rfl) (fun h O => rm1_0 l s _ hw (0 : Int32) w_IX w_IS w_X w_X_REC_NOT_GAP w_X_GAP w_S w_S_REC_NOT_GAP w_S_GAP w_X_INSERT_INTENTION w_AUTO_INC w_IX h s.heap.size O S_w_IX E_w_IX S_w_IS E_w_IS S_w_X E_w_X S_w_X_REC_NOT_GAP E_w_X_REC_NOT_GAP S_w_X_GAP E_w_X_GAP S_w_S E_w_S S_w_S_REC_NOT_GAP E_w_S_REC_NOT_GAP S_w_S_GAP E_w_S_GAP S_w_X_INSERT_INTENTION E_w_X_INSERT_INTENTION S_w_AUTO_INC E_w_AUTO_INC (by decide) (by decide) rfl) E_w_IS (fun h O => rm2_5 l s _ hw w_IS w_IX h s.heap.size O (F_insertIntention_w_IS.ext O.2) (F_insertIntention_w_IX.ext O.2) (Fld.ne F_ordinal_w_IS F_ordinal_w_IX (by decide)) (F_keyLock_w_IS.ext O.2) (F_keyLock_w_IX.ext O.2) (F_intention_w_IS.ext O.2) (F_intention_w_IX.ext O.2) (F_shared_w_IS.ext O.2) (F_shared_w_IX.ext O.2)) (fun h O => rm3_0 l s _ hw (1 : Int32) (0 : Int32) (2 : Int32) h s.heap.size O (by decide) (by decide) rfl (by decide))
    · exact law_0 l s _ hw tables_1 p1 p2 (1 : Int32) (1 : Int32) w_IS w_IS (1 : Int32) s.heap s.heap.size (Old.start s) h1 h2 (fun h O => rm1_0 l s _ hw (1 : Int32) w_IX w_IS w_X w_X_REC_NOT_GAP w_X_GAP w_S w_S_REC_NOT_GAP w_S_GAP w_X_INSERT_INTENTION w_AUTO_INC w_IS h s.heap.size O S_w_IX E_w_IX S_w_IS E_w_IS S_w_X E_w_X S_w_X_REC_NOT_GAP E_w_X_REC_NOT_GAP S_w_X_GAP E_w_X_GAP S_w_S E_w_S S_w_S_REC_NOT_GAP E_w_S_REC_NOT_GAP S_w_S_GAP E_w_S_GAP S_w_X_INSERT_INTENTION E_w_X_INSERT_INTENTION S_w_AUTO_INC E_w_AUTO_INC (by decide) (by decide) rfl) (fun h O => rm1_0 l s _ hw (1 : Int32) w_IX w_IS w_X w_X_REC_NOT_GAP w_X_GAP w_S w_S_REC_NOT_GAP w_S_GAP w_X_INSERT_INTENTION w_AUTO_INC w_IS h s.heap.size O S_w_IX E_w_IX S_w_IS E_w_IS S_w_X E_w_X S_w_X_REC_NOT_GAP E_w_X_REC_NOT_GAP S_w_X_GAP E_w_X_GAP S_w_S E_w_S S_w_S_REC_NOT_GAP E_w_S_REC_NOT_GAP S_w_S_GAP E_w_S_GAP S_w_X_INSERT_INTENTION E_w_X_INSERT_INTENTION S_w_AUTO_INC E_w_AUTO_INC (by decide) (by decide) rfl) E_w_IS (fun h O => rm2_0 l s _ hw w_IS h s.heap.size O (F_insertIntention_w_IS.ext O.2)) (fun h O => rm3_1 l s _ hw (1 : Int32) (1 : Int32) (2 : Int32) h s.heap.size O (by decide) (by decide) rfl (by decide))
    · exact law_0 l s _ hw tables_1 p1 p2 (1 : Int32) (2 : Int32) w_IS w_X (0 : Int32) s.heap s.heap.size (Old.start s) h1 h2 (fun h O => rm1_0 l s _ hw (1 : Int32) w_IX w_IS w_X w_X_REC_NOT_GAP w_X_GAP w_S w_S_REC_NOT_GAP w_S_GAP w_X_INSERT_INTENTION w_AUTO_INC w_IS h s.heap.size O S_w_IX E_w_IX S_w_IS E_w_IS S_w_X E_w_X S_w_X_REC_NOT_GAP E_w_X_REC_NOT_GAP S_w_X_GAP E_w_X_GAP S_w_S E_w_S S_w_S_REC_NOT_GAP E_w_S_REC_NOT_GAP S_w_S_GAP E_w_S_GAP S_w_X_INSERT_INTENTION E_w_X_INSERT_INTENTION S_w_AUTO_INC E_w_AUTO_INC (by decide) (by decide) rfl) (fun h O => rm1_0 l s _ hw (2 : Int32) w_IX w_IS w_X w_X_REC_NOT_GAP w_X_GAP w_S w_S_REC_NOT_GAP w_S_GAP w_X_INSERT_INTENTION w_AUTO_INC w_X h s.heap.size O S_w_IX E_w_IX S_w_IS E_w_IS S_w_X E_w_X S_w_X_REC_NOT_GAP E_w_X_REC_NOT_GAP S_w_X_GAP E_w_X_GAP S_w_S E_w_S S_w_S_REC_NOT_GAP E_w_S_REC_NOT_GAP S_w_S_GAP E_w_S_GAP S_w_X_INSERT_INTENTION E_w_X_INSERT_INTENTION S_w_AUTO_INC E_w_AUTO_INC (by decide) (by decide) rfl) E_w_IS (fun h O => rm2_2 l s _ hw w_IS w_X h s.heap.size O (F_insertIntention_w_IS.ext O.2) (F_insertIntention_w_X.ext O.2) (Fld.ne F_ordinal_w_IS F_ordinal_w_X (by decide)) (F_keyLock_w_IS.ext O.2) (F_keyLock_w_X.ext O.2) (F_intention_w_IS.ext O.2) (F_intention_w_X.ext O.2)) (fun h O => rm3_0 l s _ hw (1 : Int32) (2 : Int32) (2 : Int32) h s.heap.size O (by decide) (by decide) rfl (by decide))
    · exact law_0 l s _ hw tables_1 p1 p2 (1 : Int32) (3 : Int32) w_IS w_X_REC_NOT_GAP (0 : Int32) s.heap s.heap.size (Old.start s) h1 h2 (fun h O => rm1_0 l s _ hw (1 : Int32) w_IX w_IS w_X w_X_REC_NOT_GAP w_X_GAP w_S w_S_REC_NOT_GAP w_S_GAP w_X_INSERT_INTENTION w_AUTO_INC w_IS h s.heap.size O S_w_IX E_w_IX S_w_IS E_w_IS S_w_X E_w_X S_w_X_REC_NOT_GAP E_w_X_REC_NOT_GAP S_w_X_GAP E_w_X_GAP S_w_S E_w_S S_w_S_REC_NOT_GAP E_w_S_REC_NOT_GAP S_w_S_GAP E_w_S_GAP S_w_X_INSERT_INTENTION E_w_X_INSERT_INTENTION S_w_AUTO_INC E_w_AUTO_INC (by decide) (by decide) rfl) (fun h O => rm1_0 l s _ hw (3 : Int32) w_IX w_IS w_X w_X_REC_NOT_GAP w_X_GAP w_S w_S_REC_NOT_GAP w_S_GAP w_X_INSERT_INTENTION w_AUTO_INC w_X_REC_NOT_GAP h s.heap.size O S_w_IX E_w_IX S_w_IS E_w_IS S_w_X E_w_X S_w_X_REC_NOT_GAP E_w_X_REC_NOT_GAP S_w_X_GAP E_w_X_GAP S_w_S E_w_S S_w_S_REC_NOT_GAP E_w_S_REC_NOT_GAP S_w_S_GAP E_w_S_GAP S_w_X_INSERT_INTENTION E_w_X_INSERT_INTENTION S_w_AUTO_INC E_w_AUTO_INC (by decide) (by decide) rfl) E_w_IS (fun h O => rm2_2 l s _ hw w_IS w_X_REC_NOT_GAP h s.heap.size O (F_insertIntention_w_IS.ext O.2) (F_insertIntention_w_X_REC_NOT_GAP.ext O.2) (Fld.ne F_ordinal_w_IS F_ordinal_w_X_REC_NOT_GAP (by decide)) (F_keyLock_w_IS.ext O.2) (F_keyLock_w_X_REC_NOT_GAP.ext O.2) (F_intention_w_IS.ext O.2) (F_intention_w_X_REC_NOT_GAP.ext O.2)) (fun h O => rm3_0 l s _ hw (1 : Int32) (3 : Int32) (2 : Int32) h s.heap.size O (by decide) (by decide) rfl (by decide))
    · exact law_0 l s _ hw tables_1 p1 p2 (1 : Int32) (4 : Int32) w_IS w_X_GAP (0 : Int32) s.heap s.heap.size (Old.start s) h1 h2 (fun h O => rm1_0 l s _ hw (1 : Int32) w_IX w_IS w_X w_X_REC_NOT_GAP w_X_GAP w_S w_S_REC_NOT_GAP w_S_GAP w_X_INSERT_INTENTION w_AUTO_INC w_IS h s.heap.size O S_w_IX E_w_IX S_w_IS E_w_IS S_w_X E_w_X S_w_X_REC_NOT_GAP E_w_X_REC_NOT_GAP S_w_X_GAP E_w_X_GAP S_w_S E_w_S S_w_S_REC_NOT_GAP E_w_S_REC_NOT_GAP S_w_S_GAP E_w_S_GAP S_w_X_INSERT_INTENTION E_w_X_INSERT_INTENTION S_w_AUTO_INC E_w_AUTO_INC (by decide) (by decide) rfl) (fun h O => rm1_0 l s _ hw (4 : Int32) w_IX w_IS w_X w_X_REC_NOT_GAP w_X_GAP w_S w_S_REC_NOT_GAP w_S_GAP w_X_INSERT_INTENTION w_AUTO_INC w_X_GAP h s.heap.size O S_w_IX E_w_IX S_w_IS E_w_IS S_w_X E_w_X S_w_X_REC_NOT_GAP E_w_X_REC_NOT_GAP S_w_X_GAP E_w_X_GAP S_w_S E_w_S S_w_S_REC_NOT_GAP E_w_S_REC_NOT_GAP S_w_S_GAP E_w_S_GAP S_w_X_INSERT_INTENTION E_w_X_INSERT_INTENTION S_w_AUTO_INC E_w_AUTO_INC (by decide) (by decide) rfl) E_w_IS (fun h O => rm2_2 l s _ hw w_IS w_X_GAP h s.heap.size O (F_insertIntention_w_IS.ext O.2) (F_insertIntention_w_X_GAP.ext O.2) (Fld.ne F_ordinal_w_IS F_ordinal_w_X_GAP (by decide)) (F_keyLock_w_IS.ext O.2) (F_keyLock_w_X_GAP.ext O.2) (F_intention_w_IS.ext O.2) (F_intention_w_X_GAP.ext O.2)) (fun h O => rm3_0 l s _ hw (1 : Int32) (4 : Int32) (2 : Int32) h s.heap.size O (by decide) (by decide) rfl (by decide))
    · exact law_0 l s _ hw tables_1 p1 p2 (1 : Int32) (5 : Int32) w_IS w_S (0 : Int32) s.heap s.heap.size (Old.start s) h1 h2 (fun h O => rm1_0 l s _ hw (1 : Int32) w_IX w_IS w_X w_X_REC_NOT_GAP w_X_GAP w_S w_S_REC_NOT_GAP w_S_GAP w_X_INSERT_INTENTION w_AUTO_INC w_IS h s.heap.size O S_w_IX E_w_IX S_w_IS E_w_IS S_w_X E_w_X S_w_X_REC_NOT_GAP E_w_X_REC_NOT_GAP S_w_X_GAP E_w_X_GAP S_w_S E_w_S S_w_S_REC_NOT_GAP E_w_S_REC_NOT_GAP S_w_S_GAP E_w_S_GAP S_w_X_INSERT_INTENTION E_w_X_INSERT_INTENTION S_w_AUTO_INC E_w_AUTO_INC (by decide) (by decide) rfl) (fun h O => rm1_0 l s _ hw (5 : Int32) w_IX w_IS w_X w_X_REC_NOT_GAP w_X_GAP w_S w_S_REC_NOT_GAP w_S_GAP w_X_INSERT_INTENTION w_AUTO_INC w_S h s.heap.size O S_w_IX E_w_IX S_w_IS E_w_IS S_w_X E_w_X S_w_X_REC_NOT_GAP E_w_X_REC_NOT_GAP S_w_X_GAP E_w_X_GAP S_w_S E_w_S S_w_S_REC_NOT_GAP E_w_S_REC_NOT_GAP S_w_S_GAP E_w_S_GAP S_w_X_INSERT_INTENTION E_w_X_INSERT_INTENTION S_w_AUTO_INC E_w_AUTO_INC (by decide) (by decide) rfl) E_w_IS (fun h O => rm2_2 l s _ hw w_IS w_S h s.heap.size O (F_insertIntention_w_IS.ext O.2) (F_insertIntention_w_S.ext O.2) (Fld.ne F_ordinal_w_IS F_ordinal_w_S (by decide)) (F_keyLock_w_IS.ext O.2) (F_keyLock_w_S.ext O.2) (F_intention_w_IS.ext O.2) (F_intention_w_S.ext O.2)) (fun h O => rm3_0 l s _ hw (1 : Int32) (5 : Int32) (2 : Int32) h s.heap.size O (by decide) (by decide) rfl (by decide))
    · exact law_0 l s _ hw tables_1 p1 p2 (1 : Int32) (6 : Int32) w_IS w_S_REC_NOT_GAP (0 : Int32) s.heap s.heap.size (Old.start s) h1 h2 (fun h O => rm1_0 l s _ hw (1 : Int32) w_IX w_IS w_X w_X_REC_NOT_GAP w_X_GAP w_S w_S_REC_NOT_GAP w_S_GAP w_X_INSERT_INTENTION w_AUTO_INC w_IS h s.heap.size O S_w_IX E_w_IX S_w_IS E_w_IS S_w_X E_w_X S_w_X_REC_NOT_GAP E_w_X_REC_NOT_GAP S_w_X_GAP E_w_X_GAP S_w_S E_w_S S_w_S_REC_NOT_GAP E_w_S_REC_NOT_GAP S_w_S_GAP E_w_S_GAP S_w_X_INSERT_INTENTION E_w_X_INSERT_INTENTION S_w_AUTO_INC E_w_AUTO_INC (by decide) (by decide) rfl) (fun h O => rm1_0 l s _ hw (6 : Int32) w_IX w_IS w_X w_X_REC_NOT_GAP w_X_GAP w_S w_S_REC_NOT_GAP w_S_GAP w_X_INSERT_INTENTION w_AUTO_INC w_S_REC_NOT_GAP h s.heap.size O S_w_IX E_w_IX S_w_IS E_w_IS S_w_X E_w_X S_w_X_REC_NOT_GAP E_w_X_REC_NOT_GAP S_w_X_GAP E_w_X_GAP S_w_S E_w_S S_w_S_REC_NOT_GAP E_w_S_REC_NOT_GAP S_w_S_GAP E_w_S_GAP S_w_X_INSERT_INTENTION E_w_X_INSERT_INTENTION S_w_AUTO_INC E_w_AUTO_INC (by decide) (by decide) rfl) E_w_IS (fun h O => rm2_2 l s _ hw w_IS w_S_REC_NOT_GAP h s.heap.size O (F_insertIntention_w_IS.ext O.2) (F_insertIntention_w_S_REC_NOT_GAP.ext O.2) (Fld.ne F_ordinal_w_IS F_ordinal_w_S_REC_NOT_GAP (by decide)) (F_keyLock_w_IS.ext O.2) (F_keyLock_w_S_REC_NOT_GAP.ext O.2) (F_intention_w_IS.ext O.2) (F_intention_w_S_REC_NOT_GAP.ext O.2)) (fun h O => rm3_0 l s _ hw (1 : Int32) (6 : Int32) (2 : Int32) h s.heap.size O (by decide) (by decide) rfl (by decide))
    · exact law_0 l s _ hw tables_1 p1 p2 (1 : Int32) (7 : Int32) w_IS w_S_GAP (0 : Int32) s.heap s.heap.size (Old.start s) h1 h2 (fun h O => rm1_0 l s _ hw (1 : Int32) w_IX w_IS w_X w_X_REC_NOT_GAP w_X_GAP w_S w_S_REC_NOT_GAP w_S_GAP w_X_INSERT_INTENTION w_AUTO_INC w_IS h s.heap.size O S_w_IX E_w_IX S_w_IS E_w_IS S_w_X E_w_X S_w_X_REC_NOT_GAP E_w_X_REC_NOT_GAP S_w_X_GAP E_w_X_GAP S_w_S E_w_S S_w_S_REC_NOT_GAP E_w_S_REC_NOT_GAP S_w_S_GAP E_w_S_GAP S_w_X_INSERT_INTENTION E_w_X_INSERT_INTENTION S_w_AUTO_INC E_w_AUTO_INC (by decide) (by decide) rfl) (fun h O => rm1_0 l s _ hw (7 : Int32) w_IX w_IS w_X w_X_REC_NOT_GAP w_X_GAP w_S w_S_REC_NOT_GAP w_S_GAP w_X_INSERT_INTENTION w_AUTO_INC w_S_GAP h s.heap.size O S_w_IX E_w_IX S_w_IS E_w_IS S_w_X E_w_X S_w_X_REC_NOT_GAP E_w_X_REC_NOT_GAP S_w_X_GAP E_w_X_GAP S_w_S E_w_S S_w_S_REC_NOT_GAP E_w_S_REC_NOT_GAP S_w_S_GAP E_w_S_GAP S_w_X_INSERT_INTENTION E_w_X_INSERT_INTENTION S_w_AUTO_INC E_w_AUTO_INC (by decide) (by decide) rfl) E_w_IS (fun h O => rm2_2 l s _ hw w_IS w_S_GAP h s.heap.size O (F_insertIntention_w_IS.ext O.2) (F_insertIntention_w_S_GAP.ext O.2) (Fld.ne F_ordinal_w_IS F_ordinal_w_S_GAP (by decide)) (F_keyLock_w_IS.ext O.2) (F_keyLock_w_S_GAP.ext O.2) (F_intention_w_IS.ext O.2) (F_intention_w_S_GAP.ext O.2)) (fun h O => rm3_0 l s _ hw (1 : Int32) (7 : Int32) (2 : Int32) h s.heap.size O (by decide) (by decide) rfl (by decide))
    · exact law_0 l s _ hw tables_1 p1 p2 (1 : Int32) (8 : Int32) w_IS w_X_INSERT_INTENTION (0 : Int32) s.heap s.heap.size (Old.start s) h1 h2 (fun h O => rm1_0 l s _ hw (1 : Int32) w_IX w_IS w_X w_X_REC_NOT_GAP w_X_GAP w_S w_S_REC_NOT_GAP w_S_GAP w_X_INSERT_INTENTION w_AUTO_INC w_IS h s.heap.size O S_w_IX E_w_IX S_w_IS E_w_IS S_w_X E_w_X S_w_X_REC_NOT_GAP E_w_X_REC_NOT_GAP S_w_X_GAP E_w_X_GAP S_w_S E_w_S S_w_S_REC_NOT_GAP E_w_S_REC_NOT_GAP S_w_S_GAP E_w_S_GAP S_w_X_INSERT_INTENTION E_w_X_INSERT_INTENTION S_w_AUTO_INC E_w_AUTO_INC (by decide) (by decide) rfl) (fun h O => rm1_0 l s _ hw (8 : Int32) w_IX w_IS w_X w_X_REC_NOT_GAP w_X_GAP w_S w_S_REC_NOT_GAP w_S_GAP w_X_INSERT_INTENTION w_AUTO_INC w_X_INSERT_INTENTION h s.heap.size O S_w_IX E_w_IX S_w_IS E_w_IS S_w_X E_w_X S_w_X_REC_NOT_GAP E_w_X_REC_NOT_GAP S_w_X_GAP E_w_X_GAP S_w_S E_w_S S_w_S_REC_NOT_GAP E_w_S_REC_NOT_GAP S_w_S_GAP E_w_S_GAP S_w_X_INSERT_INTENTION E_w_X_INSERT_INTENTION S_w_AUTO_INC E_w_AUTO_INC (by decide) (by decide) rfl) E_w_IS (fun h O => rm2_3 l s _ hw w_IS w_X_INSERT_INTENTION h s.heap.size O (F_insertIntention_w_IS.ext O.2) (F_insertIntention_w_X_INSERT_INTENTION.ext O.2)) (fun h O => rm3_0 l s _ hw (1 : Int32) (8 : Int32) (2 : Int32) h s.heap.size O (by decide) (by decide) rfl (by decide))
    · exact law_0 l s _ hw tables_1 p1 p2 (1 : Int32) (9 : Int32) w_IS w_AUTO_INC (0 : Int32) s.heap s.heap.size (Old.start s) h1 h2 (fun h O => rm1_0 l s _ hw (1 : Int32) w_IX w_IS w_X w_X_REC_NOT_GAP w_X_GAP w_S w_S_REC_NOT_GAP w_S_GAP w_X_INSERT_INTENTION w_AUTO_INC w_IS h s.heap.size O S_w_IX E_w_IX S_w_IS E_w_IS S_w_X E_w_X S_w_X_REC_NOT_GAP E_w_X_REC_NOT_GAP S_w_X_GAP E_w_X_GAP S_w_S E_w_S S_w_S_REC_NOT_GAP E_w_S_REC_NOT_GAP S_w_S_GAP E_w_S_GAP S_w_X_INSERT_INTENTION E_w_X_INSERT_INTENTION S_w_AUTO_INC E_w_AUTO_INC (by decide) (by decide) rfl) (fun h O => rm1_0 l s _ hw (9 : Int32) w_IX w_IS w_X w_X_REC_NOT_GAP w_X_GAP w_S w_S_REC_NOT_GAP w_S_GAP w_X_INSERT_INTENTION w_AUTO_INC w_AUTO_INC h s.heap.size O S_w_IX E_w_IX S_w_IS E_w_IS S_w_X E_w_X S_w_X_REC_NOT_GAP E_w_X_REC_NOT_GAP S_w_X_GAP E_w_X_GAP S_w_S E_w_S S_w_S_REC_NOT_GAP E_w_S_REC_NOT_GAP S_w_S_GAP E_w_S_GAP S_w_X_INSERT_INTENTION E_w_X_INSERT_INTENTION S_w_AUTO_INC E_w_AUTO_INC (by decide) (by decide) rfl) E_w_IS (fun h O => rm2_4 l s _ hw w_IS w_AUTO_INC h s.heap.size O (F_insertIntention_w_IS.ext O.2) (F_insertIntention_w_AUTO_INC.ext O.2) (Fld.ne F_ordinal_w_IS F_ordinal_w_AUTO_INC (by decide)) (F_keyLock_w_IS.ext O.2) (F_keyLock_w_AUTO_INC.ext O.2)) (fun h O => rm3_0 l s _ hw (1 : Int32) (9 : Int32) (2 : Int32) h s.heap.size O (by decide) (by decide) rfl (by decide))
    · exact law_0 l s _ hw tables_1 p1 p2 (2 : Int32) (0 : Int32) w_X w_IX (0 : Int32) s.heap s.heap.size (Old.start s) h1 h2 (fun h O => rm1_0 l s _ hw (2 : Int32) w_IX w_IS w_X w_X_REC_NOT_GAP w_X_GAP w_S w_S_REC_NOT_GAP w_S_GAP w_X_INSERT_INTENTION w_AUTO_INC w_X h s.heap.size O S_w_IX E_w_IX S_w_IS E_w_IS S_w_X E_w_X S_w_X_REC_NOT_GAP E_w_X_REC_NOT_GAP S_w_X_GAP E_w_X_GAP S_w_S E_w_S S_w_S_REC_NOT_GAP E_w_S_REC_NOT_GAP S_w_S_GAP E_w_S_GAP S_w_X_INSERT_INTENTION E_w_X_INSERT_INTENTION S_w_AUTO_INC E_w_AUTO_INC (by decide) (by decide) rfl) (fun h O => rm1_0 l s _ hw (0 : Int32) w_IX w_IS w_X w_X_REC_NOT_GAP w_X_GAP w_S w_S_REC_NOT_GAP w_S_GAP w_X_INSERT_INTENTION w_AUTO_INC w_IX h s.heap.size O S_w_IX E_w_IX S_w_IS E_w_IS S_w_X E_w_X S_w_X_REC_NOT_GAP E_w_X_REC_NOT_GAP S_w_X_GAP E_w_X_GAP S_w_S E_w_S S_w_S_REC_NOT_GAP E_w_S_REC_NOT_GAP S_w_S_GAP E_w_S_GAP S_w_X_INSERT_INTENTION E_w_X_INSERT_INTENTION S_w_AUTO_INC E_w_AUTO_INC (by decide) (by decide) rfl) E_w_X (fun h O => rm2_6 l s _ hw w_X w_IX h s.heap.size O (F_insertIntention_w_X.ext O.2) (F_insertIntention_w_IX.ext O.2) (Fld.ne F_ordinal_w_X F_ordinal_w_IX (by decide)) (F_keyLock_w_X.ext O.2) (F_keyLock_w_IX.ext O.2) (F_intention_w_X.ext O.2) (F_intention_w_IX.ext O.2)) (fun h O => rm3_0 l s _ hw (2 : Int32) (0 : Int32) (252 : Int32) h s.heap.size O (by decide) (by decide) rfl (by decide))
    · exact law_0 l s _ hw tables_1 p1 p2 (2 : Int32) (1 : Int32) w_X w_IS (0 : Int32) s.heap s.heap.size (Old.start s) h1 h2 (fun h O => rm1_0 l s _ hw (2 : Int32) w_IX w_IS w_X w_X_REC_NOT_GAP w_X_GAP w_S w_S_REC_NOT_GAP w_S_GAP w_X_INSERT_INTENTION w_AUTO_INC w_X h s.heap.size O S_w_IX E_w_IX S_w_IS E_w_IS S_w_X E_w_X S_w_X_REC_NOT_GAP E_w_X_REC_NOT_GAP S_w_X_GAP E_w_X_GAP S_w_S E_w_S S_w_S_REC_NOT_GAP E_w_S_REC_NOT_GAP S_w_S_GAP E_w_S_GAP S_w_X_INSERT_INTENTION E_w_X_INSERT_INTENTION S_w_AUTO_INC E_w_AUTO_INC (by decide) (by decide) rfl) (fun h O => rm1_0 l s _ hw (1 : Int32) w_IX w_IS w_X w_X_REC_NOT_GAP w_X_GAP w_S w_S_REC_NOT_GAP w_S_GAP w_X_INSERT_INTENTION w_AUTO_INC w_IS h s.heap.size O S_w_IX E_w_IX S_w_IS E_w_IS S_w_X E_w_X S_w_X_REC_NOT_GAP E_w_X_REC_NOT_GAP S_w_X_GAP E_w_X_GAP S_w_S E_w_S S_w_S_REC_NOT_GAP E_w_S_REC_NOT_GAP S_w_S_GAP E_w_S_GAP S_w_X_INSERT_INTENTION E_w_X_INSERT_INTENTION S_w_AUTO_INC E_w_AUTO_INC (by decide) (by decide) rfl) E_w_X (fun h O => rm2_6 l s _ hw w_X w_IS h s.heap.size O (F_insertIntention_w_X.ext O.2) (F_insertIntention_w_IS.ext O.2) (Fld.ne F_ordinal_w_X F_ordinal_w_IS (by decide)) (F_keyLock_w_X.ext O.2) (F_keyLock_w_IS.ext O.2) (F_intention_w_X.ext O.2) (F_intention_w_IS.ext O.2)) (fun h O => rm3_0 l s _ hw (2 : Int32) (1 : Int32) (252 : Int32) h s.heap.size O (by decide) (by decide) rfl (by decide))
    · exact law_0 l s _ hw tables_1 p1 p2 (2 : Int32) (2 : Int32) w_X w_X (1 : Int32) s.heap s.heap.size (Old.start s) h1 h2 (fun h O => rm1_0 l s _ hw (2 : Int32) w_IX w_IS w_X w_X_REC_NOT_GAP w_X_GAP w_S w_S_REC_NOT_GAP w_S_GAP w_X_INSERT_INTENTION w_AUTO_INC w_X h s.heap.size O S_w_IX E_w_IX S_w_IS E_w_IS S_w_X E_w_X S_w_X_REC_NOT_GAP E_w_X_REC_NOT_GAP S_w_X_GAP E_w_X_GAP S_w_S E_w_S S_w_S_REC_NOT_GAP E_w_S_REC_NOT_GAP S_w_S_GAP E_w_S_GAP S_w_X_INSERT_INTENTION E_w_X_INSERT_INTENTION S_w_AUTO_INC E_w_AUTO_INC (by decide) (by decide) rfl) (fun h O => rm1_0 l s _ hw (2 : Int32) w_IX w_IS w_X w_X_REC_NOT_GAP w_X_GAP w_S w_S_REC_NOT_GAP w_S_GAP w_X_INSERT_INTENTION w_AUTO_INC w_X h s.heap.size O S_w_IX E_w_IX S_w_IS E_w_IS S_w_X E_w_X S_w_X_REC_NOT_GAP E_w_X_REC_NOT_GAP S_w_X_GAP E_w_X_GAP S_w_S E_w_S S_w_S_REC_NOT_GAP E_w_S_REC_NOT_GAP S_w_S_GAP E_w_S_GAP S_w_X_INSERT_INTENTION E_w_X_INSERT_INTENTION S_w_AUTO_INC E_w_AUTO_INC (by decide) (by decide) rfl) E_w_X (fun h O => rm2_0 l s _ hw w_X h s.heap.size O (F_insertIntention_w_X.ext O.2)) (fun h O => rm3_1 l s _ hw (2 : Int32) (2 : Int32) (252 : Int32) h s.heap.size O (by decide) (by decide) rfl (by decide))
    · exact law_0 l s _ hw tables_1 p1 p2 (2 : Int32) (3 : Int32) w_X w_X_REC_NOT_GAP (1 : Int32) s.heap s.heap.size (Old.start s) h1 h2 (fun h O => rm1_0 l s _ hw (2 : Int32) w_IX w_IS w_X w_X_REC_NOT_GAP w_X_GAP w_S w_S_REC_NOT_GAP w_S_GAP w_X_INSERT_INTENTION w_AUTO_INC w_X h s.heap.size O S_w_IX E_w_IX S_w_IS E_w_IS S_w_X E_w_X S_w_X_REC_NOT_GAP E_w_X_REC_NOT_GAP S_w_X_GAP E_w_X_GAP S_w_S E_w_S S_w_S_REC_NOT_GAP E_w_S_REC_NOT_GAP S_w_S_GAP E_w_S_GAP S_w_X_INSERT_INTENTION E_w_X_INSERT_INTENTION S_w_AUTO_INC E_w_AUTO_INC (by decide) (by decide) rfl) (fun h O => rm1_0 l s _ hw (3 : Int32) w_IX w_IS w_X w_X_REC_NOT_GAP w_X_GAP w_S w_S_REC_NOT_GAP w_S_GAP w_X_INSERT_INTENTION w_AUTO_INC w_X_REC_NOT_GAP h s.heap.size O S_w_IX E_w_IX S_w_IS E_w_IS S_w_X E_w_X S_w_X_REC_NOT_GAP E_w_X_REC_NOT_GAP S_w_X_GAP E_w_X_GAP S_w_S E_w_S S_w_S_REC_NOT_GAP E_w_S_REC_NOT_GAP S_w_S_GAP E_w_S_GAP S_w_X_INSERT_INTENTION E_w_X_INSERT_INTENTION S_w_AUTO_INC E_w_AUTO_INC (by decide) (by decide) rfl) E_w_X (fun h O => rm2_7 l s _ hw w_X w_X_REC_NOT_GAP h s.heap.size O (F_insertIntention_w_X.ext O.2) (F_insertIntention_w_X_REC_NOT_GAP.ext O.2) (Fld.ne F_ordinal_w_X F_ordinal_w_X_REC_NOT_GAP (by decide)) (F_keyLock_w_X.ext O.2) (F_keyLock_w_X_REC_NOT_GAP.ext O.2) (F_intention_w_X.ext O.2) (F_intention_w_X_REC_NOT_GAP.ext O.2) (F_shared_w_X.ext O.2) (F_coversTarget_w_X.ext O.2) (F_coversGap_w_X.ext O.2)) (fun h O => rm3_1 l s _ hw (2 : Int32) (3 : Int32) (252 : Int32) h s.heap.size O (by decide) (by decide) rfl (by decide))
    · exact law_0 l s _ hw tables_1 p1 p2 (2 : Int32) (4 : Int32) w_X w_X_GAP (1 : Int32) s.heap s.heap.size (Old.start s) h1 h2 (fun h O => rm1_0 l s _ hw (2 : Int32) w_IX w_IS w_X w_X_REC_NOT_GAP w_X_GAP w_S w_S_REC_NOT_GAP w_S_GAP w_X_INSERT_INTENTION w_AUTO_INC w_X h s.heap.size O S_w_IX E_w_IX S_w_IS E_w_IS S_w_X E_w_X S_w_X_REC_NOT_GAP E_w_X_REC_NOT_GAP S_w_X_GAP E_w_X_GAP S_w_S E_w_S S_w_S_REC_NOT_GAP E_w_S_REC_NOT_GAP S_w_S_GAP E_w_S_GAP S_w_X_INSERT_INTENTION E_w_X_INSERT_INTENTION S_w_AUTO_INC E_w_AUTO_INC (by decide) (by decide) rfl) (fun h O => rm1_0 l s _ hw (4 : Int32) w_IX w_IS w_X w_X_REC_NOT_GAP w_X_GAP w_S w_S_REC_NOT_GAP w_S_GAP w_X_INSERT_INTENTION w_AUTO_INC w_X_GAP h s.heap.size O S_w_IX E_w_IX S_w_IS E_w_IS S_w_X E_w_X S_w_X_REC_NOT_GAP E_w_X_REC_NOT_GAP S_w_X_GAP E_w_X_GAP S_w_S E_w_S S_w_S_REC_NOT_GAP E_w_S_REC_NOT_GAP S_w_S_GAP E_w_S_GAP S_w_X_INSERT_INTENTION E_w_X_INSERT_INTENTION S_w_AUTO_INC E_w_AUTO_INC (by decide) (by decide) rfl) E_w_X (fun h O => rm2_7 l s _ hw w_X w_X_GAP h s.heap.size O (F_insertIntention_w_X.ext O.2) (F_insertIntention_w_X_GAP.ext O.2) (Fld.ne F_ordinal_w_X F_ordinal_w_X_GAP (by decide)) (F_keyLock_w_X.ext O.2) (F_keyLock_w_X_GAP.ext O.2) (F_intention_w_X.ext O.2) (F_intention_w_X_GAP.ext O.2) (F_shared_w_X.ext O.2) (F_coversTarget_w_X.ext O.2) (F_coversGap_w_X.ext O.2)) (fun h O => rm3_1 l s _ hw (2 : Int32) (4 : Int32) (252 : Int32) h s.heap.size O (by decide) (by decide) rfl (by decide))
    · exact law_0 l s _ hw tables_1 p1 p2 (2 : Int32) (5 : Int32) w_X w_S (1 : Int32) s.heap s.heap.size (Old.start s) h1 h2 (fun h O => rm1_0 l s _ hw (2 : Int32) w_IX w_IS w_X w_X_REC_NOT_GAP w_X_GAP w_S w_S_REC_NOT_GAP w_S_GAP w_X_INSERT_INTENTION w_AUTO_INC w_X h s.heap.size O S_w_IX E_w_IX S_w_IS E_w_IS S_w_X E_w_X S_w_X_REC_NOT_GAP E_w_X_REC_NOT_GAP S_w_X_GAP E_w_X_GAP S_w_S E_w_S S_w_S_REC_NOT_GAP E_w_S_REC_NOT_GAP S_w_S_GAP E_w_S_GAP S_w_X_INSERT_INTENTION E_w_X_INSERT_INTENTION S_w_AUTO_INC E_w_AUTO_INC (by decide) (by decide) rfl) (fun h O => rm1_0 l s _ hw (5 : Int32) w_IX w_IS w_X w_X_REC_NOT_GAP w_X_GAP w_S w_S_REC_NOT_GAP w_S_GAP w_X_INSERT_INTENTION w_AUTO_INC w_S h s.heap.size O S_w_IX E_w_IX S_w_IS E_w_IS S_w_X E_w_X S_w_X_REC_NOT_GAP E_w_X_REC_NOT_GAP S_w_X_GAP E_w_X_GAP S_w_S E_w_S S_w_S_REC_NOT_GAP E_w_S_REC_NOT_GAP S_w_S_GAP E_w_S_GAP S_w_X_INSERT_INTENTION E_w_X_INSERT_INTENTION S_w_AUTO_INC E_w_AUTO_INC (by decide) (by decide) rfl) E_w_X (fun h O => rm2_7 l s _ hw w_X w_S h s.heap.size O (F_insertIntention_w_X.ext O.2) (F_insertIntention_w_S.ext O.2) (Fld.ne F_ordinal_w_X F_ordinal_w_S (by decide)) (F_keyLock_w_X.ext O.2) (F_keyLock_w_S.ext O.2) (F_intention_w_X.ext O.2) (F_intention_w_S.ext O.2) (F_shared_w_X.ext O.2) (F_coversTarget_w_X.ext O.2) (F_coversGap_w_X.ext O.2)) (fun h O => rm3_1 l s _ hw (2 : Int32) (5 : Int32) (252 : Int32) h s.heap.size O (by decide) (by decide) rfl (by decide))
    · exact law_0 l s _ hw tables_1 p1 p2 (2 : Int32) (6 : Int32) w_X w_S_REC_NOT_GAP (1 : Int32) s.heap s.heap.size (Old.start s) h1 h2 (fun h O => rm1_0 l s _ hw (2 : Int32) w_IX w_IS w_X w_X_REC_NOT_GAP w_X_GAP w_S w_S_REC_NOT_GAP w_S_GAP w_X_INSERT_INTENTION w_AUTO_INC w_X h s.heap.size O S_w_IX E_w_IX S_w_IS E_w_IS S_w_X E_w_X S_w_X_REC_NOT_GAP E_w_X_REC_NOT_GAP S_w_X_GAP E_w_X_GAP S_w_S E_w_S S_w_S_REC_NOT_GAP E_w_S_REC_NOT_GAP S_w_S_GAP E_w_S_GAP S_w_X_INSERT_INTENTION E_w_X_INSERT_INTENTION S_w_AUTO_INC E_w_AUTO_INC (by decide) (by decide) rfl) (fun h O => rm1_0 l s _ hw (6 : Int32) w_IX w_IS w_X w_X_REC_NOT_GAP w_X_GAP w_S w_S_REC_NOT_GAP w_S_GAP w_X_INSERT_INTENTION w_AUTO_INC w_S_REC_NOT_GAP h s.heap.size O S_w_IX E_w_IX S_w_IS E_w_IS S_w_X E_w_X S_w_X_REC_NOT_GAP E_w_X_REC_NOT_GAP S_w_X_GAP E_w_X_GAP S_w_S E_w_S S_w_S_REC_NOT_GAP E_w_S_REC_NOT_GAP S_w_S_GAP E_w_S_GAP S_w_X_INSERT_INTENTION E_w_X_INSERT_INTENTION S_w_AUTO_INC E_w_AUTO_INC (by decide) (by decide) rfl) E_w_X (fun h O => rm2_7 l s _ hw w_X w_S_REC_NOT_GAP h s.heap.size O (F_insertIntention_w_X.ext O.2) (F_insertIntention_w_S_REC_NOT_GAP.ext O.2) (Fld.ne F_ordinal_w_X F_ordinal_w_S_REC_NOT_GAP (by decide)) (F_keyLock_w_X.ext O.2) (F_keyLock_w_S_REC_NOT_GAP.ext O.2) (F_intention_w_X.ext O.2) (F_intention_w_S_REC_NOT_GAP.ext O.2) (F_shared_w_X.ext O.2) (F_coversTarget_w_X.ext O.2) (F_coversGap_w_X.ext O.2)) (fun h O => rm3_1 l s _ hw (2 : Int32) (6 : Int32) (252 : Int32) h s.heap.size O (by decide) (by decide) rfl (by decide))
    · exact law_0 l s _ hw tables_1 p1 p2 (2 : Int32) (7 : Int32) w_X w_S_GAP (1 : Int32) s.heap s.heap.size (Old.start s) h1 h2 (fun h O => rm1_0 l s _ hw (2 : Int32) w_IX w_IS w_X w_X_REC_NOT_GAP w_X_GAP w_S w_S_REC_NOT_GAP w_S_GAP w_X_INSERT_INTENTION w_AUTO_INC w_X h s.heap.size O S_w_IX E_w_IX S_w_IS E_w_IS S_w_X E_w_X S_w_X_REC_NOT_GAP E_w_X_REC_NOT_GAP S_w_X_GAP E_w_X_GAP S_w_S E_w_S S_w_S_REC_NOT_GAP E_w_S_REC_NOT_GAP S_w_S_GAP E_w_S_GAP S_w_X_INSERT_INTENTION E_w_X_INSERT_INTENTION S_w_AUTO_INC E_w_AUTO_INC (by decide) (by decide) rfl) (fun h O => rm1_0 l s _ hw (7 : Int32) w_IX w_IS w_X w_X_REC_NOT_GAP w_X_GAP w_S w_S_REC_NOT_GAP w_S_GAP w_X_INSERT_INTENTION w_AUTO_INC w_S_GAP h s.heap.size O S_w_IX E_w_IX S_w_IS E_w_IS S_w_X E_w_X S_w_X_REC_NOT_GAP E_w_X_REC_NOT_GAP S_w_X_GAP E_w_X_GAP S_w_S E_w_S S_w_S_REC_NOT_GAP E_w_S_REC_NOT_GAP S_w_S_GAP E_w_S_GAP S_w_X_INSERT_INTENTION E_w_X_INSERT_INTENTION S_w_AUTO_INC E_w_AUTO_INC (by decide) (by decide) rfl) E_w_X (fun h O => rm2_7 l s _ hw w_X w_S_GAP h s.heap.size O (F_insertIntention_w_X.ext O.2) (F_insertIntention_w_S_GAP.ext O.2) (Fld.ne F_ordinal_w_X F_ordinal_w_S_GAP (by decide)) (F_keyLock_w_X.ext O.2) (F_keyLock_w_S_GAP.ext O.2) (F_intention_w_X.ext O.2) (F_intention_w_S_GAP.ext O.2) (F_shared_w_X.ext O.2) (F_coversTarget_w_X.ext O.2) (F_coversGap_w_X.ext O.2)) (fun h O => rm3_1 l s _ hw (2 : Int32) (7 : Int32) (252 : Int32) h s.heap.size O (by decide) (by decide) rfl (by decide))
    · exact law_0 l s _ hw tables_1 p1 p2 (2 : Int32) (8 : Int32) w_X w_X_INSERT_INTENTION (0 : Int32) s.heap s.heap.size (Old.start s) h1 h2 (fun h O => rm1_0 l s _ hw (2 : Int32) w_IX w_IS w_X w_X_REC_NOT_GAP w_X_GAP w_S w_S_REC_NOT_GAP w_S_GAP w_X_INSERT_INTENTION w_AUTO_INC w_X h s.heap.size O S_w_IX E_w_IX S_w_IS E_w_IS S_w_X E_w_X S_w_X_REC_NOT_GAP E_w_X_REC_NOT_GAP S_w_X_GAP E_w_X_GAP S_w_S E_w_S S_w_S_REC_NOT_GAP E_w_S_REC_NOT_GAP S_w_S_GAP E_w_S_GAP S_w_X_INSERT_INTENTION E_w_X_INSERT_INTENTION S_w_AUTO_INC E_w_AUTO_INC (by decide) (by decide) rfl) (fun h O => rm1_0 l s _ hw (8 : Int32) w_IX w_IS w_X w_X_REC_NOT_GAP w_X_GAP w_S w_S_REC_NOT_GAP w_S_GAP w_X_INSERT_INTENTION w_AUTO_INC w_X_INSERT_INTENTION h s.heap.size O S_w_IX E_w_IX S_w_IS E_w_IS S_w_X E_w_X S_w_X_REC_NOT_GAP E_w_X_REC_NOT_GAP S_w_X_GAP E_w_X_GAP S_w_S E_w_S S_w_S_REC_NOT_GAP E_w_S_REC_NOT_GAP S_w_S_GAP E_w_S_GAP S_w_X_INSERT_INTENTION E_w_X_INSERT_INTENTION S_w_AUTO_INC E_w_AUTO_INC (by decide) (by decide) rfl) E_w_X (fun h O => rm2_3 l s _ hw w_X w_X_INSERT_INTENTION h s.heap.size O (F_insertIntention_w_X.ext O.2) (F_insertIntention_w_X_INSERT_INTENTION.ext O.2)) (fun h O => rm3_0 l s _ hw (2 : Int32) (8 : Int32) (252 : Int32) h s.heap.size O (by decide) (by decide) rfl (by decide))
    · exact law_0 l s _ hw tables_1 p1 p2 (2 : Int32) (9 : Int32) w_X w_AUTO_INC (0 : Int32) s.heap s.heap.size (Old.start s) h1 h2 (fun h O => rm1_0 l s _ hw (2 : Int32) w_IX w_IS w_X w_X_REC_NOT_GAP w_X_GAP w_S w_S_REC_NOT_GAP w_S_GAP w_X_INSERT_INTENTION w_AUTO_INC w_X h s.heap.size O S_w_IX E_w_IX S_w_IS E_w_IS S_w_X E_w_X S_w_X_REC_NOT_GAP E_w_X_REC_NOT_GAP S_w_X_GAP E_w_X_GAP S_w_S E_w_S S_w_S_REC_NOT_GAP E_w_S_REC_NOT_GAP S_w_S_GAP E_w_S_GAP S_w_X_INSERT_INTENTION E_w_X_INSERT_INTENTION S_w_AUTO_INC E_w_AUTO_INC (by decide) (by decide) rfl) (fun h O => rm1_0 l s _ hw (9 : Int32) w_IX w_IS w_X w_X_REC_NOT_GAP w_X_GAP w_S w_S_REC_NOT_GAP w_S_GAP w_X_INSERT_INTENTION w_AUTO_INC w_AUTO_INC h s.heap.size O S_w_IX E_w_IX S_w_IS E_w_IS S_w_X E_w_X S_w_X_REC_NOT_GAP E_w_X_REC_NOT_GAP S_w_X_GAP E_w_X_GAP S_w_S E_w_S S_w_S_REC_NOT_GAP E_w_S_REC_NOT_GAP S_w_S_GAP E_w_S_GAP S_w_X_INSERT_INTENTION E_w_X_INSERT_INTENTION S_w_AUTO_INC E_w_AUTO_INC (by decide) (by decide) rfl) E_w_X (fun h O => rm2_4 l s _ hw w_X w_AUTO_INC h s.heap.size O (F_insertIntention_w_X.ext O.2) (F_insertIntention_w_AUTO_INC.ext O.2) (Fld.ne F_ordinal_w_X F_ordinal_w_AUTO_INC (by decide)) (F_keyLock_w_X.ext O.2) (F_keyLock_w_AUTO_INC.ext O.2)) (fun h O => rm3_0 l s _ hw (2 : Int32) (9 : Int32) (252 : Int32) h s.heap.size O (by decide) (by decide) rfl (by decide))
    · exact law_0 l s _ hw tables_1 p1 p2 (3 : Int32) (0 : Int32) w_X_REC_NOT_GAP w_IX (0 : Int32) s.heap s.heap.size (Old.start s) h1 h2 (fun h O => rm1_0 l s _ hw (3 : Int32) w_IX w_IS w_X w_X_REC_NOT_GAP w_X_GAP w_S w_S_REC_NOT_GAP w_S_GAP w_X_INSERT_INTENTION w_AUTO_INC w_X_REC_NOT_GAP h s.heap.size O S_w_IX E_w_IX S_w_IS E_w_IS S_w_X E_w_X S_w_X_REC_NOT_GAP E_w_X_REC_NOT_GAP S_w_X_GAP E_w_X_GAP S_w_S E_w_S S_w_S_REC_NOT_GAP E_w_S_REC_NOT_GAP S_w_S_GAP E_w_S_GAP S_w_X_INSERT_INTENTION E_w_X_INSERT_INTENTION S_w_AUTO_INC E_w_AUTO_INC (by decide) (by decide) rfl) (fun h O => rm1_0 l s _ hw (0 : Int32) w_IX w_IS w_X w_X_REC_NOT_GAP w_X_GAP w_S w_S_REC_NOT_GAP w_S_GAP w_X_INSERT_INTENTION w_AUTO_INC w_IX h s.heap.size O S_w_IX E_w_IX S_w_IS E_w_IS S_w_X E_w_X S_w_X_REC_NOT_GAP E_w_X_REC_NOT_GAP S_w_X_GAP E_w_X_GAP S_w_S E_w_S S_w_S_REC_NOT_GAP E_w_S_REC_NOT_GAP S_w_S_GAP E_w_S_GAP S_w_X_INSERT_INTENTION E_w_X_INSERT_INTENTION S_w_AUTO_INC E_w_AUTO_INC (by decide) (by decide) rfl) E_w_X_REC_NOT_GAP (fun h O => rm2_6 l s _ hw w_X_REC_NOT_GAP w_IX h s.heap.size O (F_insertIntention_w_X_REC_NOT_GAP.ext O.2) (F_insertIntention_w_IX.ext O.2) (Fld.ne F_ordinal_w_X_REC_NOT_GAP F_ordinal_w_IX (by decide)) (F_keyLock_w_X_REC_NOT_GAP.ext O.2) (F_keyLock_w_IX.ext O.2) (F_intention_w_X_REC_NOT_GAP.ext O.2) (F_intention_w_IX.ext O.2)) (fun h O => rm3_0 l s _ hw (3 : Int32) (0 : Int32) (72 : Int32) h s.heap.size O (by decide) (by decide) rfl (by decide))
    · exact law_0 l s _ hw tables_1 p1 p2 (3 : Int32) (1 : Int32) w_X_REC_NOT_GAP w_IS (0 : Int32) s.heap s.heap.size (Old.start s) h1 h2 (fun h O => rm1_0 l s _ hw (3 : Int32) w_IX w_IS w_X w_X_REC_NOT_GAP w_X_GAP w_S w_S_REC_NOT_GAP w_S_GAP w_X_INSERT_INTENTION w_AUTO_INC w_X_REC_NOT_GAP h s.heap.size O S_w_IX E_w_IX S_w_IS E_w_IS S_w_X E_w_X S_w_X_REC_NOT_GAP E_w_X_REC_NOT_GAP S_w_X_GAP E_w_X_GAP S_w_S E_w_S S_w_S_REC_NOT_GAP E_w_S_REC_NOT_GAP S_w_S_GAP E_w_S_GAP S_w_X_INSERT_INTENTION E_w_X_INSERT_INTENTION S_w_AUTO_INC E_w_AUTO_INC (by decide) (by decide) rfl) (fun h O => rm1_0 l s _ hw (1 : Int32) w_IX w_IS w_X w_X_REC_NOT_GAP w_X_GAP w_S w_S_REC_NOT_GAP w_S_GAP w_X_INSERT_INTENTION w_AUTO_INC w_IS h s.heap.size O S_w_IX E_w_IX S_w_IS E_w_IS S_w_X E_w_X S_w_X_REC_NOT_GAP E_w_X_REC_NOT_GAP S_w_X_GAP E_w_X_GAP S_w_S E_w_S S_w_S_REC_NOT_GAP E_w_S_REC_NOT_GAP S_w_S_GAP E_w_S_GAP S_w_X_INSERT_INTENTION E_w_X_INSERT_INTENTION S_w_AUTO_INC E_w_AUTO_INC (by decide) (by decide) rfl) E_w_X_REC_NOT_GAP (fun h O => rm2_6 l s _ hw w_X_REC_NOT_GAP w_IS h s.heap.size O (F_insertIntention_w_X_REC_NOT_GAP.ext O.2) (F_insertIntention_w_IS.ext O.2) (Fld.ne F_ordinal_w_X_REC_NOT_GAP F_ordinal_w_IS (by decide)) (F_keyLock_w_X_REC_NOT_GAP.ext O.2) (F_keyLock_w_IS.ext O.2) (F_intention_w_X_REC_NOT_GAP.ext O.2) (F_intention_w_IS.ext O.2)) (fun h O => rm3_0 l s _ hw (3 : Int32) (1 : Int32) (72 : Int32) h s.heap.size O (by decide) (by decide) rfl (by decide))
    · exact law_0 l s _ hw tables_1 p1 p2 (3 : Int32) (2 : Int32) w_X_REC_NOT_GAP w_X (0 : Int32) s.heap s.heap.size (Old.start s) h1 h2 (fun h O => rm1_0 l s _ hw (3 : Int32) w_IX w_IS w_X w_X_REC_NOT_GAP w_X_GAP w_S w_S_REC_NOT_GAP w_S_GAP w_X_INSERT_INTENTION w_AUTO_INC w_X_REC_NOT_GAP h s.heap.size O S_w_IX E_w_IX S_w_IS E_w_IS S_w_X E_w_X S_w_X_REC_NOT_GAP E_w_X_REC_NOT_GAP S_w_X_GAP E_w_X_GAP S_w_S E_w_S S_w_S_REC_NOT_GAP E_w_S_REC_NOT_GAP S_w_S_GAP E_w_S_GAP S_w_X_INSERT_INTENTION E_w_X_INSERT_INTENTION S_w_AUTO_INC E_w_AUTO_INC (by decide) (by decide) rfl) (fun h O => rm1_0 l s _ hw (2 : Int32) w_IX w_IS w_X w_X_REC_NOT_GAP w_X_GAP w_S w_S_REC_NOT_GAP w_S_GAP w_X_INSERT_INTENTION w_AUTO_INC w_X h s.heap.size O S_w_IX E_w_IX S_w_IS E_w_IS S_w_X E_w_X S_w_X_REC_NOT_GAP E_w_X_REC_NOT_GAP S_w_X_GAP E_w_X_GAP S_w_S E_w_S S_w_S_REC_NOT_GAP E_w_S_REC_NOT_GAP S_w_S_GAP E_w_S_GAP S_w_X_INSERT_INTENTION E_w_X_INSERT_INTENTION S_w_AUTO_INC E_w_AUTO_INC (by decide) (by decide) rfl) E_w_X_REC_NOT_GAP (fun h O => rm2_8 l s _ hw w_X_REC_NOT_GAP w_X h s.heap.size O (F_insertIntention_w_X_REC_NOT_GAP.ext O.2) (F_insertIntention_w_X.ext O.2) (Fld.ne F_ordinal_w_X_REC_NOT_GAP F_ordinal_w_X (by decide)) (F_keyLock_w_X_REC_NOT_GAP.ext O.2) (F_keyLock_w_X.ext O.2) (F_intention_w_X_REC_NOT_GAP.ext O.2) (F_intention_w_X.ext O.2) (F_shared_w_X_REC_NOT_GAP.ext O.2) (F_coversTarget_w_X_REC_NOT_GAP.ext O.2) (F_coversGap_w_X_REC_NOT_GAP.ext O.2) (F_coversGap_w_X.ext O.2)) (fun h O => rm3_0 l s _ hw (3 : Int32) (2 : Int32) (72 : Int32) h s.heap.size O (by decide) (by decide) rfl (by decide))
    · exact law_0 l s _ hw tables_1 p1 p2 (3 : Int32) (3 : Int32) w_X_REC_NOT_GAP w_X_REC_NOT_GAP (1 : Int32) s.heap s.heap.size (Old.start s) h1 h2 (fun h O => rm1_0 l s _ hw (3 : Int32) w_IX w_IS w_X w_X_REC_NOT_GAP w_X_GAP w_S w_S_REC_NOT_GAP w_S_GAP w_X_INSERT_INTENTION w_AUTO_INC w_X_REC_NOT_GAP h s.heap.size O S_w_IX E_w_IX S_w_IS E_w_IS S_w_X E_w_X S_w_X_REC_NOT_GAP E_w_X_REC_NOT_GAP S_w_X_GAP E_w_X_GAP S_w_S E_w_S S_w_S_REC_NOT_GAP E_w_S_REC_NOT_GAP S_w_S_GAP E_w_S_GAP S_w_X_INSERT_INTENTION E_w_X_INSERT_INTENTION S_w_AUTO_INC E_w_AUTO_INC (by decide) (by decide) rfl) (fun h O => rm1_0 l s _ hw (3 : Int32) w_IX w_IS w_X w_X_REC_NOT_GAP w_X_GAP w_S w_S_REC_NOT_GAP w_S_GAP w_X_INSERT_INTENTION w_AUTO_INC w_X_REC_NOT_GAP h s.heap.size O S_w_IX E_w_IX S_w_IS E_w_IS S_w_X E_w_X S_w_X_REC_NOT_GAP E_w_X_REC_NOT_GAP S_w_X_GAP E_w_X_GAP S_w_S E_w_S S_w_S_REC_NOT_GAP E_w_S_REC_NOT_GAP S_w_S_GAP E_w_S_GAP S_w_X_INSERT_INTENTION E_w_X_INSERT_INTENTION S_w_AUTO_INC E_w_AUTO_INC (by decide) (by decide) rfl) E_w_X_REC_NOT_GAP (fun h O => rm2_0 l s _ hw w_X_REC_NOT_GAP h s.heap.size O (F_insertIntention_w_X_REC_NOT_GAP.ext O.2)) (fun h O => rm3_1 l s _ hw (3 : Int32) (3 : Int32) (72 : Int32) h s.heap.size O (by decide) (by decide) rfl (by decide))
    · exact law_0 l s _ hw tables_1 p1 p2 (3 : Int32) (4 : Int32) w_X_REC_NOT_GAP w_X_GAP (0 : Int32) s.heap s.heap.size (Old.start s) h1 h2 (fun h O => rm1_0 l s _ hw (3 : Int32) w_IX w_IS w_X w_X_REC_NOT_GAP w_X_GAP w_S w_S_REC_NOT_GAP w_S_GAP w_X_INSERT_INTENTION w_AUTO_INC w_X_REC_NOT_GAP h s.heap.size O S_w_IX E_w_IX S_w_IS E_w_IS S_w_X E_w_X S_w_X_REC_NOT_GAP E_w_X_REC_NOT_GAP S_w_X_GAP E_w_X_GAP S_w_S E_w_S S_w_S_REC_NOT_GAP E_w_S_REC_NOT_GAP S_w_S_GAP E_w_S_GAP S_w_X_INSERT_INTENTION E_w_X_INSERT_INTENTION S_w_AUTO_INC E_w_AUTO_INC (by decide) (by decide) rfl) (fun h O => rm1_0 l s _ hw (4 : Int32) w_IX w_IS w_X w_X_REC_NOT_GAP w_X_GAP w_S w_S_REC_NOT_GAP w_S_GAP w_X_INSERT_INTENTION w_AUTO_INC w_X_GAP h s.heap.size O S_w_IX E_w_IX S_w_IS E_w_IS S_w_X E_w_X S_w_X_REC_NOT_GAP E_w_X_REC_NOT_GAP S_w_X_GAP E_w_X_GAP S_w_S E_w_S S_w_S_REC_NOT_GAP E_w_S_REC_NOT_GAP S_w_S_GAP E_w_S_GAP S_w_X_INSERT_INTENTION E_w_X_INSERT_INTENTION S_w_AUTO_INC E_w_AUTO_INC (by decide) (by decide) rfl) E_w_X_REC_NOT_GAP (fun h O => rm2_8 l s _ hw w_X_REC_NOT_GAP w_X_GAP h s.heap.size O (F_insertIntention_w_X_REC_NOT_GAP.ext O.2) (F_insertIntention_w_X_GAP.ext O.2) (Fld.ne F_ordinal_w_X_REC_NOT_GAP F_ordinal_w_X_GAP (by decide)) (F_keyLock_w_X_REC_NOT_GAP.ext O.2) (F_keyLock_w_X_GAP.ext O.2) (F_intention_w_X_REC_NOT_GAP.ext O.2) (F_intention_w_X_GAP.ext O.2) (F_shared_w_X_REC_NOT_GAP.ext O.2) (F_coversTarget_w_X_REC_NOT_GAP.ext O.2) (F_coversGap_w_X_REC_NOT_GAP.ext O.2) (F_coversGap_w_X_GAP.ext O.2)) (fun h O => rm3_0 l s _ hw (3 : Int32) (4 : Int32) (72 : Int32) h s.heap.size O (by decide) (by decide) rfl (by decide))
    · exact law_0 l s _ hw tables_1 p1 p2 (3 : Int32) (5 : Int32) w_X_REC_NOT_GAP w_S (0 : Int32) s.heap s.heap.size (Old.start s) h1 h2 (fun h O => rm1_0 l s _ hw (3 : Int32) w_IX w_IS w_X w_X_REC_NOT_GAP w_X_GAP w_S w_S_REC_NOT_GAP w_S_GAP w_X_INSERT_INTENTION w_AUTO_INC w_X_REC_NOT_GAP h s.heap.size O S_w_IX E_w_IX S_w_IS E_w_IS S_w_X E_w_X S_w_X_REC_NOT_GAP E_w_X_REC_NOT_GAP S_w_X_GAP E_w_X_GAP S_w_S E_w_S S_w_S_REC_NOT_GAP E_w_S_REC_NOT_GAP S_w_S_GAP E_w_S_GAP S_w_X_INSERT_INTENTION E_w_X_INSERT_INTENTION S_w_AUTO_INC E_w_AUTO_INC (by decide) (by decide) rfl) (fun h O => rm1_0 l s _ hw (5 : Int32) w_IX w_IS w_X w_X_REC_NOT_GAP w_X_GAP w_S w_S_REC_NOT_GAP w_S_GAP w_X_INSERT_INTENTION w_AUTO_INC w_S h s.heap.size O S_w_IX E_w_IX S_w_IS E_w_IS S_w_X E_w_X S_w_X_REC_NOT_GAP E_w_X_REC_NOT_GAP S_w_X_GAP E_w_X_GAP S_w_S E_w_S S_w_S_REC_NOT_GAP E_w_S_REC_NOT_GAP S_w_S_GAP E_w_S_GAP S_w_X_INSERT_INTENTION E_w_X_INSERT_INTENTION S_w_AUTO_INC E_w_AUTO_INC (by decide) (by decide) rfl) E_w_X_REC_NOT_GAP (fun h O => rm2_8 l s _ hw w_X_REC_NOT_GAP w_S h s.heap.size O (F_insertIntention_w_X_REC_NOT_GAP.ext O.2) (F_insertIntention_w_S.ext O.2) (Fld.ne F_ordinal_w_X_REC_NOT_GAP F_ordinal_w_S (by decide)) (F_keyLock_w_X_REC_NOT_GAP.ext O.2) (F_keyLock_w_S.ext O.2) (F_intention_w_X_REC_NOT_GAP.ext O.2) (F_intention_w_S.ext O.2) (F_shared_w_X_REC_NOT_GAP.ext O.2) (F_coversTarget_w_X_REC_NOT_GAP.ext O.2) (F_coversGap_w_X_REC_NOT_GAP.ext O.2) (F_coversGap_w_S.ext O.2)) (fun h O => rm3_0 l s _ hw (3 : Int32) (5 : Int32) (72 : Int32) h s.heap.size O (by decide) (by decide) rfl (by decide))
    · exact law_0 l s _ hw tables_1 p1 p2 (3 : Int32) (6 : Int32) w_X_REC_NOT_GAP w_S_REC_NOT_GAP (1 : Int32) s.heap s.heap.size (Old.start s) h1 h2 (fun h O => rm1_0 l s _ hw (3 : Int32) w_IX w_IS w_X w_X_REC_NOT_GAP w_X_GAP w_S w_S_REC_NOT_GAP w_S_GAP w_X_INSERT_INTENTION w_AUTO_INC w_X_REC_NOT_GAP h s.heap.size O S_w_IX E_w_IX S_w_IS E_w_IS S_w_X E_w_X S_w_X_REC_NOT_GAP E_w_X_REC_NOT_GAP S_w_X_GAP E_w_X_GAP S_w_S E_w_S S_w_S_REC_NOT_GAP E_w_S_REC_NOT_GAP S_w_S_GAP E_w_S_GAP S_w_X_INSERT_INTENTION E_w_X_INSERT_INTENTION S_w_AUTO_INC E_w_AUTO_INC (by decide) (by decide) rfl) (fun h O => rm1_0 l s _ hw (6 : Int32) w_IX w_IS w_X w_X_REC_NOT_GAP w_X_GAP w_S w_S_REC_NOT_GAP w_S_GAP w_X_INSERT_INTENTION w_AUTO_INC w_S_REC_NOT_GAP h s.heap.size O S_w_IX E_w_IX S_w_IS E_w_IS S_w_X E_w_X S_w_X_REC_NOT_GAP E_w_X_REC_NOT_GAP S_w_X_GAP E_w_X_GAP S_w_S E_w_S S_w_S_REC_NOT_GAP E_w_S_REC_NOT_GAP S_w_S_GAP E_w_S_GAP S_w_X_INSERT_INTENTION E_w_X_INSERT_INTENTION S_w_AUTO_INC E_w_AUTO_INC (by decide) (by decide) rfl) E_w_X_REC_NOT_GAP (fun h O => rm2_9 l s _ hw w_X_REC_NOT_GAP w_S_REC_NOT_GAP h s.heap.size O (F_insertIntention_w_X_REC_NOT_GAP.ext O.2) (F_insertIntention_w_S_REC_NOT_GAP.ext O.2) (Fld.ne F_ordinal_w_X_REC_NOT_GAP F_ordinal_w_S_REC_NOT_GAP (by decide)) (F_keyLock_w_X_REC_NOT_GAP.ext O.2) (F_keyLock_w_S_REC_NOT_GAP.ext O.2) (F_intention_w_X_REC_NOT_GAP.ext O.2) (F_intention_w_S_REC_NOT_GAP.ext O.2) (F_shared_w_X_REC_NOT_GAP.ext O.2) (F_coversTarget_w_X_REC_NOT_GAP.ext O.2) (F_coversGap_w_X_REC_NOT_GAP.ext O.2) (F_coversGap_w_S_REC_NOT_GAP.ext O.2)) (fun h O => rm3_1 l s _ hw (3 : Int32) (6 : Int32) (72 : Int32) h s.heap.size O (by decide) (by decide) rfl (by decide))
    · exact law_0 l s _ hw tables_1 p1 p2 (3 : Int32) (7 : Int32) w_X_REC_NOT_GAP w_S_GAP (0 : Int32) s.heap s.heap.size (Old.start s) h1 h2 (fun h O => rm1_0 l s _ hw (3 : Int32) w_IX w_IS w_X w_X_REC_NOT_GAP w_X_GAP w_S w_S_REC_NOT_GAP w_S_GAP w_X_INSERT_INTENTION w_AUTO_INC w_X_REC_NOT_GAP h s.heap.size O S_w_IX E_w_IX S_w_IS E_w_IS S_w_X E_w_X S_w_X_REC_NOT_GAP E_w_X_REC_NOT_GAP S_w_X_GAP E_w_X_GAP S_w_S E_w_S S_w_S_REC_NOT_GAP E_w_S_REC_NOT_GAP S_w_S_GAP E_w_S_GAP S_w_X_INSERT_INTENTION E_w_X_INSERT_INTENTION S_w_AUTO_INC E_w_AUTO_INC (by decide) (by decide) rfl) (fun h O => rm1_0 l s _ hw (7 : Int32) w_IX w_IS w_X w_X_REC_NOT_GAP w_X_GAP w_S w_S_REC_NOT_GAP w_S_GAP w_X_INSERT_INTENTION w_AUTO_INC w_S_GAP h s.heap.size O S_w_IX E_w_IX S_w_IS E_w_IS S_w_X E_w_X S_w_X_REC_NOT_GAP E_w_X_REC_NOT_GAP S_w_X_GAP E_w_X_GAP S_w_S E_w_S S_w_S_REC_NOT_GAP E_w_S_REC_NOT_GAP S_w_S_GAP E_w_S_GAP S_w_X_INSERT_INTENTION E_w_X_INSERT_INTENTION S_w_AUTO_INC E_w_AUTO_INC (by decide) (by decide) rfl) E_w_X_REC_NOT_GAP (fun h O => rm2_8 l s _ hw w_X_REC_NOT_GAP w_S_GAP h s.heap.size O (F_insertIntention_w_X_REC_NOT_GAP.ext O.2) (F_insertIntention_w_S_GAP.ext O.2) (Fld.ne F_ordinal_w_X_REC_NOT_GAP F_ordinal_w_S_GAP (by decide)) (F_keyLock_w_X_REC_NOT_GAP.ext O.2) (F_keyLock_w_S_GAP.ext O.2) (F_intention_w_X_REC_NOT_GAP.ext O.2) (F_intention_w_S_GAP.ext O.2) (F_shared_w_X_REC_NOT_GAP.ext O.2) (F_coversTarget_w_X_REC_NOT_GAP.ext O.2) (F_coversGap_w_X_REC_NOT_GAP.ext O.2) (F_coversGap_w_S_GAP.ext O.2)) (fun h O => rm3_0 l s _ hw (3 : Int32) (7 : Int32) (72 : Int32) h s.heap.size O (by decide) (by decide) rfl (by decide))
    · exact law_0 l s _ hw tables_1 p1 p2 (3 : Int32) (8 : Int32) w_X_REC_NOT_GAP w_X_INSERT_INTENTION (0 : Int32) s.heap s.heap.size (Old.start s) h1 h2 (fun h O => rm1_0 l s _ hw (3 : Int32) w_IX w_IS w_X w_X_REC_NOT_GAP w_X_GAP w_S w_S_REC_NOT_GAP w_S_GAP w_X_INSERT_INTENTION w_AUTO_INC w_X_REC_NOT_GAP h s.heap.size O S_w_IX E_w_IX S_w_IS E_w_IS S_w_X E_w_X S_w_X_REC_NOT_GAP E_w_X_REC_NOT_GAP S_w_X_GAP E_w_X_GAP S_w_S E_w_S S_w_S_REC_NOT_GAP E_w_S_REC_NOT_GAP S_w_S_GAP E_w_S_GAP S_w_X_INSERT_INTENTION E_w_X_INSERT_INTENTION S_w_AUTO_INC E_w_AUTO_INC (by decide) (by decide) rfl) (fun h O => rm1_0 l s _ hw (8 : Int32) w_IX w_IS w_X w_X_REC_NOT_GAP w_X_GAP w_S w_S_REC_NOT_GAP w_S_GAP w_X_INSERT_INTENTION w_AUTO_INC w_X_INSERT_INTENTION h s.heap.size O S_w_IX E_w_IX S_w_IS E_w_IS S_w_X E_w_X S_w_X_REC_NOT_GAP E_w_X_REC_NOT_GAP S_w_X_GAP E_w_X_GAP S_w_S E_w_S S_w_S_REC_NOT_GAP E_w_S_REC_NOT_GAP S_w_S_GAP E_w_S_GAP S_w_X_INSERT_INTENTION E_w_X_INSERT_INTENTION S_w_AUTO_INC E_w_AUTO_INC (by decide) (by decide) rfl) E_w_X_REC_NOT_GAP (fun h O => rm2_3 l s _ hw w_X_REC_NOT_GAP w_X_INSERT_INTENTION h s.heap.size O (F_insertIntention_w_X_REC_NOT_GAP.ext O.2) (F_insertIntention_w_X_INSERT_INTENTION.ext O.2)) (fun h O => rm3_0 l s _ hw (3 : Int32) (8 : Int32) (72 : Int32) h s.heap.size O (by decide) (by decide) rfl (by decide))
    · exact law_0 l s _ hw tables_1 p1 p2 (3 : Int32) (9 : Int32) w_X_REC_NOT_GAP w_AUTO_INC (0 : Int32) s.heap s.heap.size (Old.start s) h1 h2 (fun h O => rm1_0 l s _ hw (3 : Int32) w_IX w_IS w_X w_X_REC_NOT_GAP w_X_GAP w_S w_S_REC_NOT_GAP w_S_GAP w_X_INSERT_INTENTION w_AUTO_INC w_X_REC_NOT_GAP h s.heap.size O S_w_IX E_w_IX S_w_IS E_w_IS S_w_X E_w_X S_w_X_REC_NOT_GAP E_w_X_REC_NOT_GAP S_w_X_GAP E_w_X_GAP S_w_S E_w_S S_w_S_REC_NOT_GAP E_w_S_REC_NOT_GAP S_w_S_GAP E_w_S_GAP S_w_X_INSERT_INTENTION E_w_X_INSERT_INTENTION S_w_AUTO_INC E_w_AUTO_INC (by decide) (by decide) rfl) (fun h O => rm1_0 l s _ hw (9 : Int32) w_IX w_IS w_X w_X_REC_NOT_GAP w_X_GAP w_S w_S_REC_NOT_GAP w_S_GAP w_X_INSERT_INTENTION w_AUTO_INC w_AUTO_INC h s.heap.size O S_w_IX E_w_IX S_w_IS E_w_IS S_w_X E_w_X S_w_X_REC_NOT_GAP E_w_X_REC_NOT_GAP S_w_X_GAP E_w_X_GAP S_w_S E_w_S S_w_S_REC_NOT_GAP E_w_S_REC_NOT_GAP S_w_S_GAP E_w_S_GAP S_w_X_INSERT_INTENTION E_w_X_INSERT_INTENTION S_w_AUTO_INC E_w_AUTO_INC (by decide) (by decide) rfl) E_w_X_REC_NOT_GAP (fun h O => rm2_4 l s _ hw w_X_REC_NOT_GAP w_AUTO_INC h s.heap.size O (F_insertIntention_w_X_REC_NOT_GAP.ext O.2) (F_insertIntention_w_AUTO_INC.ext O.2) (Fld.ne F_ordinal_w_X_REC_NOT_GAP F_ordinal_w_AUTO_INC (by decide)) (F_keyLock_w_X_REC_NOT_GAP.ext O.2) (F_keyLock_w_AUTO_INC.ext O.2)) (fun h O => rm3_0 l s _ hw (3 : Int32) (9 : Int32) (72 : Int32) h s.heap.size O (by decide) (by decide) rfl (by decide))
    · exact law_0 l s _ hw tables_1 p1 p2 (4 : Int32) (0 : Int32) w_X_GAP w_IX (0 : Int32) s.heap s.heap.size (Old.start s) h1 h2 (fun h O => rm1_0 l s _ hw (4 : Int32) w_IX w_IS w_X w_X_REC_NOT_GAP w_X_GAP w_S w_S_REC_NOT_GAP w_S_GAP w_X_INSERT_INTENTION w_AUTO_INC w_X_GAP h s.heap.size O S_w_IX E_w_IX S_w_IS E_w_IS S_w_X E_w_X S_w_X_REC_NOT_GAP E_w_X_REC_NOT_GAP S_w_X_GAP E_w_X_GAP S_w_S E_w_S S_w_S_REC_NOT_GAP E_w_S_REC_NOT_GAP S_w_S_GAP E_w_S_GAP S_w_X_INSERT_INTENTION E_w_X_INSERT_INTENTION S_w_AUTO_INC E_w_AUTO_INC (by decide) (by decide) rfl) (fun h O => rm1_0 l s _ hw (0 : Int32) w_IX w_IS w_X w_X_REC_NOT_GAP w_X_GAP w_S w_S_REC_NOT_GAP w_S_GAP w_X_INSERT_INTENTION w_AUTO_INC w_IX h s.heap.size O S_w_IX E_w_IX S_w_IS E_w_IS S_w_X E_w_X S_w_X_REC_NOT_GAP E_w_X_REC_NOT_GAP S_w_X_GAP E_w_X_GAP S_w_S E_w_S S_w_S_REC_NOT_GAP E_w_S_REC_NOT_GAP S_w_S_GAP E_w_S_GAP S_w_X_INSERT_INTENTION E_w_X_INSERT_INTENTION S_w_AUTO_INC E_w_AUTO_INC (by decide) (by decide) rfl) E_w_X_GAP (fun h O => rm2_6 l s _ hw w_X_GAP w_IX h s.heap.size O (F_insertIntention_w_X_GAP.ext O.2) (F_insertIntention_w_IX.ext O.2) (Fld.ne F_ordinal_w_X_GAP F_ordinal_w_IX (by decide)) (F_keyLock_w_X_GAP.ext O.2) (F_keyLock_w_IX.ext O.2) (F_intention_w_X_GAP.ext O.2) (F_intention_w_IX.ext O.2)) (fun h O => rm3_0 l s _ hw (4 : Int32) (0 : Int32) (144 : Int32) h s.heap.size O (by decide) (by decide) rfl (by decide))
    · exact law_0 l s _ hw tables_1 p1 p2 (4 : Int32) (1 : Int32) w_X_GAP w_IS (0 : Int32) s.heap s.heap.size (Old.start s) h1 h2 (fun h O => rm1_0 l s _ hw (4 : Int32) w_IX w_IS w_X w_X_REC_NOT_GAP w_X_GAP w_S w_S_REC_NOT_GAP w_S_GAP w_X_INSERT_INTENTION w_AUTO_INC w_X_GAP h s.heap.size O S_w_IX E_w_IX S_w_IS E_w_IS S_w_X E_w_X S_w_X_REC_NOT_GAP E_w_X_REC_NOT_GAP S_w_X_GAP E_w_X_GAP S_w_S E_w_S S_w_S_REC_NOT_GAP E_w_S_REC_NOT_GAP S_w_S_GAP E_w_S_GAP S_w_X_INSERT_INTENTION E_w_X_INSERT_INTENTION S_w_AUTO_INC E_w_AUTO_INC (by decide) (by decide) rfl) (fun h O => rm1_0 l s _ hw (1 : Int32) w_IX w_IS w_X w_X_REC_NOT_GAP w_X_GAP w_S w_S_REC_NOT_GAP w_S_GAP w_X_INSERT_INTENTION w_AUTO_INC w_IS h s.heap.size O S_w_IX E_w_IX S_w_IS E_w_IS S_w_X E_w_X S_w_X_REC_NOT_GAP E_w_X_REC_NOT_GAP S_w_X_GAP E_w_X_GAP S_w_S E_w_S S_w_S_REC_NOT_GAP E_w_S_REC_NOT_GAP S_w_S_GAP E_w_S_GAP S_w_X_INSERT_INTENTION E_w_X_INSERT_INTENTION S_w_AUTO_INC E_w_AUTO_INC (by decide) (by decide) rfl) E_w_X_GAP (fun h O => rm2_6 l s _ hw w_X_GAP w_IS h s.heap.size O (F_insertIntention_w_X_GAP.ext O.2) (F_insertIntention_w_IS.ext O.2) (Fld.ne F_ordinal_w_X_GAP F_ordinal_w_IS (by decide)) (F_keyLock_w_X_GAP.ext O.2) (F_keyLock_w_IS.ext O.2) (F_intention_w_X_GAP.ext O.2) (F_intention_w_IS.ext O.2)) (fun h O => rm3_0 l s _ hw (4 : Int32) (1 : Int32) (144 : Int32) h s.heap.size O (by decide) (by decide) rfl (by decide))
    · exact law_0 l s _ hw tables_1 p1 p2 (4 : Int32) (2 : Int32) w_X_GAP w_X (0 : Int32) s.heap s.heap.size (Old.start s) h1 h2 (fun h O => rm1_0 l s _ hw (4 : Int32) w_IX w_IS w_X w_X_REC_NOT_GAP w_X_GAP w_S w_S_REC_NOT_GAP w_S_GAP w_X_INSERT_INTENTION w_AUTO_INC w_X_GAP h s.heap.size O S_w_IX E_w_IX S_w_IS E_w_IS S_w_X E_w_X S_w_X_REC_NOT_GAP E_w_X_REC_NOT_GAP S_w_X_GAP E_w_X_GAP S_w_S E_w_S S_w_S_REC_NOT_GAP E_w_S_REC_NOT_GAP S_w_S_GAP E_w_S_GAP S_w_X_INSERT_INTENTION E_w_X_INSERT_INTENTION S_w_AUTO_INC E_w_AUTO_INC (by decide) (by decide) rfl) (fun h O => rm1_0 l s _ hw (2 : Int32) w_IX w_IS w_X w_X_REC_NOT_GAP w_X_GAP w_S w_S_REC_NOT_GAP w_S_GAP w_X_INSERT_INTENTION w_AUTO_INC w_X h s.heap.size O S_w_IX E_w_IX S_w_IS E_w_IS S_w_X E_w_X S_w_X_REC_NOT_GAP E_w_X_REC_NOT_GAP S_w_X_GAP E_w_X_GAP S_w_S E_w_S S_w_S_REC_NOT_GAP E_w_S_REC_NOT_GAP S_w_S_GAP E_w_S_GAP S_w_X_INSERT_INTENTION E_w_X_INSERT_INTENTION S_w_AUTO_INC E_w_AUTO_INC (by decide) (by decide) rfl) E_w_X_GAP (fun h O => rm2_10 l s _ hw w_X_GAP w_X h s.heap.size O (F_insertIntention_w_X_GAP.ext O.2) (F_insertIntention_w_X.ext O.2) (Fld.ne F_ordinal_w_X_GAP F_ordinal_w_X (by decide)) (F_keyLock_w_X_GAP.ext O.2) (F_keyLock_w_X.ext O.2) (F_intention_w_X_GAP.ext O.2) (F_intention_w_X.ext O.2) (F_shared_w_X_GAP.ext O.2) (F_coversTarget_w_X_GAP.ext O.2) (F_coversTarget_w_X.ext O.2)) (fun h O => rm3_0 l s _ hw (4 : Int32) (2 : Int32) (144 : Int32) h s.heap.size O (by decide) (by decide) rfl (by decide))
    · exact law_0 l s _ hw tables_1 p1 p2 (4 : Int32) (3 : Int32) w_X_GAP w_X_REC_NOT_GAP (0 : Int32) s.heap s.heap.size (Old.start s) h1 h2 (fun h O => rm1_0 l s _ hw (4 : Int32) w_IX w_IS w_X w_X_REC_NOT_GAP w_X_GAP w_S w_S_REC_NOT_GAP w_S_GAP w_X_INSERT_INTENTION w_AUTO_INC w_X_GAP h s.heap.size O S_w_IX E_w_IX S_w_IS E_w_IS S_w_X E_w_X S_w_X_REC_NOT_GAP E_w_X_REC_NOT_GAP S_w_X_GAP E_w_X_GAP S_w_S E_w_S S_w_S_REC_NOT_GAP E_w_S_REC_NOT_GAP S_w_S_GAP E_w_S_GAP S_w_X_INSERT_INTENTION E_w_X_INSERT_INTENTION S_w_AUTO_INC E_w_AUTO_INC (by decide) (by decide) rfl) (fun h O => rm1_0 l s _ hw (3 : Int32) w_IX w_IS w_X w_X_REC_NOT_GAP w_X_GAP w_S w_S_REC_NOT_GAP w_S_GAP w_X_INSERT_INTENTION w_AUTO_INC w_X_REC_NOT_GAP h s.heap.size O S_w_IX E_w_IX S_w_IS E_w_IS S_w_X E_w_X S_w_X_REC_NOT_GAP E_w_X_REC_NOT_GAP S_w_X_GAP E_w_X_GAP S_w_S E_w_S S_w_S_REC_NOT_GAP E_w_S_REC_NOT_GAP S_w_S_GAP E_w_S_GAP S_w_X_INSERT_INTENTION E_w_X_INSERT_INTENTION S_w_AUTO_INC E_w_AUTO_INC (by decide) (by decide) rfl) E_w_X_GAP (fun h O => rm2_10 l s _ hw w_X_GAP w_X_REC_NOT_GAP h s.heap.size O (F_insertIntention_w_X_GAP.ext O.2) (F_insertIntention_w_X_REC_NOT_GAP.ext O.2) (Fld.ne F_ordinal_w_X_GAP F_ordinal_w_X_REC_NOT_GAP (by decide)) (F_keyLock_w_X_GAP.ext O.2) (F_keyLock_w_X_REC_NOT_GAP.ext O.2) (F_intention_w_X_GAP.ext O.2) (F_intention_w_X_REC_NOT_GAP.ext O.2) (F_shared_w_X_GAP.ext O.2) (F_coversTarget_w_X_GAP.ext O.2) (F_coversTarget_w_X_REC_NOT_GAP.ext O.2)) (fun h O => rm3_0 l s _ hw (4 : Int32) (3 : Int32) (144 : Int32) h s.heap.size O (by decide) (by decide) rfl (by decide))
    · exact law_0 l s _ hw tables_1 p1 p2 (4 : Int32) (4 : Int32) w_X_GAP w_X_GAP (1 : Int32) s.heap s.heap.size (Old.start s) h1 h2 (fun h O => rm1_0 l s _ hw (4 : Int32) w_IX w_IS w_X w_X_REC_NOT_GAP w_X_GAP w_S w_S_REC_NOT_GAP w_S_GAP w_X_INSERT_INTENTION w_AUTO_INC w_X_GAP h s.heap.size O S_w_IX E_w_IX S_w_IS E_w_IS S_w_X E_w_X S_w_X_REC_NOT_GAP E_w_X_REC_NOT_GAP S_w_X_GAP E_w_X_GAP S_w_S E_w_S S_w_S_REC_NOT_GAP E_w_S_REC_NOT_GAP S_w_S_GAP E_w_S_GAP S_w_X_INSERT_INTENTION E_w_X_INSERT_INTENTION S_w_AUTO_INC E_w_AUTO_INC (by decide) (by decide) rfl) (fun h O => rm1_0 l s _ hw (4 : Int32) w_IX w_IS w_X w_X_REC_NOT_GAP w_X_GAP w_S w_S_REC_NOT_GAP w_S_GAP w_X_INSERT_INTENTION w_AUTO_INC w_X_GAP h s.heap.size O S_w_IX E_w_IX S_w_IS E_w_IS S_w_X E_w_X S_w_X_REC_NOT_GAP E_w_X_REC_NOT_GAP S_w_X_GAP E_w_X_GAP S_w_S E_w_S S_w_S_REC_NOT_GAP E_w_S_REC_NOT_GAP S_w_S_GAP E_w_S_GAP S_w_X_INSERT_INTENTION E_w_X_INSERT_INTENTION S_w_AUTO_INC E_w_AUTO_INC (by decide) (by decide) rfl) E_w_X_GAP (fun h O => rm2_0 l s _ hw w_X_GAP h s.heap.size O (F_insertIntention_w_X_GAP.ext O.2)) (fun h O => rm3_1 l s _ hw (4 : Int32) (4 : Int32) (144 : Int32) h s.heap.size O (by decide) (by decide) rfl (by decide))
    · exact law_0 l s _ hw tables_1 p1 p2 (4 : Int32) (5 : Int32) w_X_GAP w_S (0 : Int32) s.heap s.heap.size (Old.start s) h1 h2 (fun h O => rm1_0 l s _ hw (4 : Int32) w_IX w_IS w_X w_X_REC_NOT_GAP w_X_GAP w_S w_S_REC_NOT_GAP w_S_GAP w_X_INSERT_INTENTION w_AUTO_INC w_X_GAP h s.heap.size O S_w_IX E_w_IX S_w_IS E_w_IS S_w_X E_w_X S_w_X_REC_NOT_GAP E_w_X_REC_NOT_GAP S_w_X_GAP E_w_X_GAP S_w_S E_w_S S_w_S_REC_NOT_GAP E_w_S_REC_NOT_GAP S_w_S_GAP E_w_S_GAP S_w_X_INSERT_INTENTION E_w_X_INSERT_INTENTION S_w_AUTO_INC E_w_AUTO_INC (by decide) (by decide) rfl) (fun h O => rm1_0 l s _ hw (5 : Int32) w_IX w_IS w_X w_X_REC_NOT_GAP w_X_GAP w_S w_S_REC_NOT_GAP w_S_GAP w_X_INSERT_INTENTION w_AUTO_INC w_S h s.heap.size O S_w_IX E_w_IX S_w_IS E_w_IS S_w_X E_w_X S_w_X_REC_NOT_GAP E_w_X_REC_NOT_GAP S_w_X_GAP E_w_X_GAP S_w_S E_w_S S_w_S_REC_NOT_GAP E_w_S_REC_NOT_GAP S_w_S_GAP E_w_S_GAP S_w_X_INSERT_INTENTION E_w_X_INSERT_INTENTION S_w_AUTO_INC E_w_AUTO_INC (by decide) (by decide) rfl) E_w_X_GAP (fun h O => rm2_10 l s _ hw w_X_GAP w_S h s.heap.size O (F_insertIntention_w_X_GAP.ext O.2) (F_insertIntention_w_S.ext O.2) (Fld.ne F_ordinal_w_X_GAP F_ordinal_w_S (by decide)) (F_keyLock_w_X_GAP.ext O.2) (F_keyLock_w_S.ext O.2) (F_intention_w_X_GAP.ext O.2) (F_intention_w_S.ext O.2) (F_shared_w_X_GAP.ext O.2) (F_coversTarget_w_X_GAP.ext O.2) (F_coversTarget_w_S.ext O.2)) (fun h O => rm3_0 l s _ hw (4 : Int32) (5 : Int32) (144 : Int32) h s.heap.size O (by decide) (by decide) rfl (by decide))
    · exact law_0 l s _ hw tables_1 p1 p2 (4 : Int32) (6 : Int32) w_X_GAP w_S_REC_NOT_GAP (0 : Int32) s.heap s.heap.size (Old.start s) h1 h2 (fun h O => rm1_0 l s _ hw (4 : Int32) w_IX w_IS w_X w_X_REC_NOT_GAP w_X_GAP w_S w_S_REC_NOT_GAP w_S_GAP w_X_INSERT_INTENTION w_AUTO_INC w_X_GAP h s.heap.size O S_w_IX E_w_IX S_w_IS E_w_IS S_w_X E_w_X S_w_X_REC_NOT_GAP E_w_X_REC_NOT_GAP S_w_X_GAP E_w_X_GAP S_w_S E_w_S S_w_S_REC_NOT_GAP E_w_S_REC_NOT_GAP S_w_S_GAP E_w_S_GAP S_w_X_INSERT_INTENTION E_w_X_INSERT_INTENTION S_w_AUTO_INC E_w_AUTO_INC (by decide) (by decide) rfl) (fun h O => rm1_0 l s _ hw (6 : Int32) w_IX w_IS w_X w_X_REC_NOT_GAP w_X_GAP w_S w_S_REC_NOT_GAP w_S_GAP w_X_INSERT_INTENTION w_AUTO_INC w_S_REC_NOT_GAP h s.heap.size O S_w_IX E_w_IX S_w_IS E_w_IS S_w_X E_w_X S_w_X_REC_NOT_GAP E_w_X_REC_NOT_GAP S_w_X_GAP E_w_X_GAP S_w_S E_w_S S_w_S_REC_NOT_GAP E_w_S_REC_NOT_GAP S_w_S_GAP E_w_S_GAP S_w_X_INSERT_INTENTION E_w_X_INSERT_INTENTION S_w_AUTO_INC E_w_AUTO_INC (by decide) (by decide) rfl) E_w_X_GAP (fun h O => rm2_10 l s _ hw w_X_GAP w_S_REC_NOT_GAP h s.heap.size O (F_insertIntention_w_X_GAP.ext O.2) (F_insertIntention_w_S_REC_NOT_GAP.ext O.2) (Fld.ne F_ordinal_w_X_GAP F_ordinal_w_S_REC_NOT_GAP (by decide)) (F_keyLock_w_X_GAP.ext O.2) (F_keyLock_w_S_REC_NOT_GAP.ext O.2) (F_intention_w_X_GAP.ext O.2) (F_intention_w_S_REC_NOT_GAP.ext O.2) (F_shared_w_X_GAP.ext O.2) (F_coversTarget_w_X_GAP.ext O.2) (F_coversTarget_w_S_REC_NOT_GAP.ext O.2)) (fun h O => rm3_0 l s _ hw (4 : Int32) (6 : Int32) (144 : Int32) h s.heap.size O (by decide) (by decide) rfl (by decide))
    · exact law_0 l s _ hw tables_1 p1 p2 (4 : Int32) (7 : Int32) w_X_GAP w_S_GAP (1 : Int32) s.heap s.heap.size (Old.start s) h1 h2 (fun h O => rm1_0 l s _ hw (4 : Int32) w_IX w_IS w_X w_X_REC_NOT_GAP w_X_GAP w_S w_S_REC_NOT_GAP w_S_GAP w_X_INSERT_INTENTION w_AUTO_INC w_X_GAP h s.heap.size O S_w_IX E_w_IX S_w_IS E_w_IS S_w_X E_w_X S_w_X_REC_NOT_GAP E_w_X_REC_NOT_GAP S_w_X_GAP E_w_X_GAP S_w_S E_w_S S_w_S_REC_NOT_GAP E_w_S_REC_NOT_GAP S_w_S_GAP E_w_S_GAP S_w_X_INSERT_INTENTION E_w_X_INSERT_INTENTION S_w_AUTO_INC E_w_AUTO_INC (by decide) (by decide) rfl) (fun h O => rm1_0 l s _ hw (7 : Int32) w_IX w_IS w_X w_X_REC_NOT_GAP w_X_GAP w_S w_S_REC_NOT_GAP w_S_GAP w_X_INSERT_INTENTION w_AUTO_INC w_S_GAP h s.heap.size O S_w_IX E_w_IX S_w_IS E_w_IS S_w_X E_w_X S_w_X_REC_NOT_GAP E_w_X_REC_NOT_GAP S_w_X_GAP E_w_X_GAP S_w_S E_w_S S_w_S_REC_NOT_GAP E_w_S_REC_NOT_GAP S_w_S_GAP E_w_S_GAP S_w_X_INSERT_INTENTION E_w_X_INSERT_INTENTION S_w_AUTO_INC E_w_AUTO_INC (by decide) (by decide) rfl) E_w_X_GAP (fun h O => rm2_11 l s _ hw w_X_GAP w_S_GAP h s.heap.size O (F_insertIntention_w_X_GAP.ext O.2) (F_insertIntention_w_S_GAP.ext O.2) (Fld.ne F_ordinal_w_X_GAP F_ordinal_w_S_GAP (by decide)) (F_keyLock_w_X_GAP.ext O.2) (F_keyLock_w_S_GAP.ext O.2) (F_intention_w_X_GAP.ext O.2) (F_intention_w_S_GAP.ext O.2) (F_shared_w_X_GAP.ext O.2) (F_coversTarget_w_X_GAP.ext O.2) (F_coversTarget_w_S_GAP.ext O.2) (F_coversGap_w_X_GAP.ext O.2)) (fun h O => rm3_1 l s _ hw (4 : Int32) (7 : Int32) (144 : Int32) h s.heap.size O (by decide) (by decide) rfl (by decide))
    · exact law_0 l s _ hw tables_1 p1 p2 (4 : Int32) (8 : Int32) w_X_GAP w_X_INSERT_INTENTION (0 : Int32) s.heap s.heap.size (Old.start s) h1 h2 (fun h O => rm1_0 l s _ hw (4 : Int32) w_IX w_IS w_X w_X_REC_NOT_GAP w_X_GAP w_S w_S_REC_NOT_GAP w_S_GAP w_X_INSERT_INTENTION w_AUTO_INC w_X_GAP h s.heap.size O S_w_IX E_w_IX S_w_IS E_w_IS S_w_X E_w_X S_w_X_REC_NOT_GAP E_w_X_REC_NOT_GAP S_w_X_GAP E_w_X_GAP S_w_S E_w_S S_w_S_REC_NOT_GAP E_w_S_REC_NOT_GAP S_w_S_GAP E_w_S_GAP S_w_X_INSERT_INTENTION E_w_X_INSERT_INTENTION S_w_AUTO_INC E_w_AUTO_INC (by decide) (by decide) rfl) (fun h O => rm1_0 l s _ hw (8 : Int32) w_IX w_IS w_X w_X_REC_NOT_GAP w_X_GAP w_S w_S_REC_NOT_GAP w_S_GAP w_X_INSERT_INTENTION w_AUTO_INC w_X_INSERT_INTENTION h s.heap.size O S_w_IX E_w_IX S_w_IS E_w_IS S_w_X E_w_X S_w_X_REC_NOT_GAP E_w_X_REC_NOT_GAP S_w_X_GAP E_w_X_GAP S_w_S E_w_S S_w_S_REC_NOT_GAP E_w_S_REC_NOT_GAP S_w_S_GAP E_w_S_GAP S_w_X_INSERT_INTENTION E_w_X_INSERT_INTENTION S_w_AUTO_INC E_w_AUTO_INC (by decide) (by decide) rfl) E_w_X_GAP (fun h O => rm2_3 l s _ hw w_X_GAP w_X_INSERT_INTENTION h s.heap.size O (F_insertIntention_w_X_GAP.ext O.2) (F_insertIntention_w_X_INSERT_INTENTION.ext O.2)) (fun h O => rm3_0 l s _ hw (4 : Int32) (8 : Int32) (144 : Int32) h s.heap.size O (by decide) (by decide) rfl (by decide))
    · exact law_0 l s _ hw tables_1 p1 p2 (4 : Int32) (9 : Int32) w_X_GAP w_AUTO_INC (0 : Int32) s.heap s.heap.size (Old.start s) h1 h2 (fun h O => rm1_0 l s _ hw (4 : Int32) w_IX w_IS w_X w_X_REC_NOT_GAP w_X_GAP w_S w_S_REC_NOT_GAP w_S_GAP w_X_INSERT_INTENTION w_AUTO_INC w_X_GAP h s.heap.size O S_w_IX E_w_IX S_w_IS E_w_IS S_w_X E_w_X S_w_X_REC_NOT_GAP E_w_X_REC_NOT_GAP S_w_X_GAP E_w_X_GAP S_w_S E_w_S S_w_S_REC_NOT_GAP E_w_S_REC_NOT_GAP S_w_S_GAP E_w_S_GAP S_w_X_INSERT_INTENTION E_w_X_INSERT_INTENTION S_w_AUTO_INC E_w_AUTO_INC (by decide) (by decide) rfl) (fun h O => rm1_0 l s _ hw (9 : Int32) w_IX w_IS w_X w_X_REC_NOT_GAP w_X_GAP w_S w_S_REC_NOT_GAP w_S_GAP w_X_INSERT_INTENTION w_AUTO_INC w_AUTO_INC h s.heap.size O S_w_IX E_w_IX S_w_IS E_w_IS S_w_X E_w_X S_w_X_REC_NOT_GAP E_w_X_REC_NOT_GAP S_w_X_GAP E_w_X_GAP S_w_S E_w_S S_w_S_REC_NOT_GAP E_w_S_REC_NOT_GAP S_w_S_GAP E_w_S_GAP S_w_X_INSERT_INTENTION E_w_X_INSERT_INTENTION S_w_AUTO_INC E_w_AUTO_INC (by decide) (by decide) rfl) E_w_X_GAP (fun h O => rm2_4 l s _ hw w_X_GAP w_AUTO_INC h s.heap.size O (F_insertIntention_w_X_GAP.ext O.2) (F_insertIntention_w_AUTO_INC.ext O.2) (Fld.ne F_ordinal_w_X_GAP F_ordinal_w_AUTO_INC (by decide)) (F_keyLock_w_X_GAP.ext O.2) (F_keyLock_w_AUTO_INC.ext O.2)) (fun h O => rm3_0 l s _ hw (4 : Int32) (9 : Int32) (144 : Int32) h s.heap.size O (by decide) (by decide) rfl (by decide))
    · exact law_0 l s _ hw tables_1 p1 p2 (5 : Int32) (0 : Int32) w_S w_IX (0 : Int32) s.heap s.heap.size (Old.start s) h1 h2 (fun h O => rm1_0 l s _ hw (5 : Int32) w_IX w_IS w_X w_X_REC_NOT_GAP w_X_GAP w_S w_S_REC_NOT_GAP w_S_GAP w_X_INSERT_INTENTION w_AUTO_INC w_S h s.heap.size O S_w_IX E_w_IX S_w_IS E_w_IS S_w_X E_w_X S_w_X_REC_NOT_GAP E_w_X_REC_NOT_GAP S_w_X_GAP E_w_X_GAP S_w_S E_w_S S_w_S_REC_NOT_GAP E_w_S_REC_NOT_GAP S_w_S_GAP E_w_S_GAP S_w_X_INSERT_INTENTION E_w_X_INSERT_INTENTION S_w_AUTO_INC E_w_AUTO_INC (by decide) (by decide) rfl) (fun h O => rm1_0 l s _ hw (0 : Int32) w_IX w_IS w_X w_X_REC_NOT_GAP w_X_GAP w_S w_S_REC_NOT_GAP w_S_GAP w_X_INSERT_INTENTION w_AUTO_INC w_IX h s.heap.size O S_w_IX E_w_IX S_w_IS E_w_IS S_w_X E_w_X S_w_X_REC_NOT_GAP E_w_X_REC_NOT_GAP S_w_X_GAP E_w_X_GAP S_w_S E_w_S S_w_S_REC_NOT_GAP E_w_S_REC_NOT_GAP S_w_S_GAP E_w_S_GAP S_w_X_INSERT_INTENTION E_w_X_INSERT_INTENTION S_w_AUTO_INC E_w_AUTO_INC (by decide) (by decide) rfl) E_w_S (fun h O => rm2_6 l s _ hw w_S w_IX h s.heap.size O (F_insertIntention_w_S.ext O.2) (F_insertIntention_w_IX.ext O.2) (Fld.ne F_ordinal_w_S F_ordinal_w_IX (by decide)) (F_keyLock_w_S.ext O.2) (F_keyLock_w_IX.ext O.2) (F_intention_w_S.ext O.2) (F_intention_w_IX.ext O.2)) (fun h O => rm3_0 l s _ hw (5 : Int32) (0 : Int32) (224 : Int32) h s.heap.size O (by decide) (by decide) rfl (by decide))
    · exact law_0 l s _ hw tables_1 p1 p2 (5 : Int32) (1 : Int32) w_S w_IS (0 : Int32) s.heap s.heap.size (Old.start s) h1 h2 (fun h O => rm1_0 l s _ hw (5 : Int32) w_IX w_IS w_X w_X_REC_NOT_GAP w_X_GAP w_S w_S_REC_NOT_GAP w_S_GAP w_X_INSERT_INTENTION w_AUTO_INC w_S h s.heap.size O S_w_IX E_w_IX S_w_IS E_w_IS S_w_X E_w_X S_w_X_REC_NOT_GAP E_w_X_REC_NOT_GAP S_w_X_GAP E_w_X_GAP S_w_S E_w_S S_w_S_REC_NOT_GAP E_w_S_REC_NOT_GAP S_w_S_GAP E_w_S_GAP S_w_X_INSERT_INTENTION E_w_X_INSERT_INTENTION S_w_AUTO_INC E_w_AUTO_INC (by decide) (by decide) rfl) (fun h O => rm1_0 l s _ hw (1 : Int32) w_IX w_IS w_X w_X_REC_NOT_GAP w_X_GAP w_S w_S_REC_NOT_GAP w_S_GAP w_X_INSERT_INTENTION w_AUTO_INC w_IS h s.heap.size O S_w_IX E_w_IX S_w_IS E_w_IS S_w_X E_w_X S_w_X_REC_NOT_GAP E_w_X_REC_NOT_GAP S_w_X_GAP E_w_X_GAP S_w_S E_w_S S_w_S_REC_NOT_GAP E_w_S_REC_NOT_GAP S_w_S_GAP E_w_S_GAP S_w_X_INSERT_INTENTION E_w_X_INSERT_INTENTION S_w_AUTO_INC E_w_AUTO_INC (by decide) (by decide) rfl) E_w_S (fun h O => rm2_6 l s _ hw w_S w_IS h s.heap.size O (F_insertIntention_w_S.ext O.2) (F_insertIntention_w_IS.ext O.2) (Fld.ne F_ordinal_w_S F_ordinal_w_IS (by decide)) (F_keyLock_w_S.ext O.2) (F_keyLock_w_IS.ext O.2) (F_intention_w_S.ext O.2) (F_intention_w_IS.ext O.2)) (fun h O => rm3_0 l s _ hw (5 : Int32) (1 : Int32) (224 : Int32) h s.heap.size O (by decide) (by decide) rfl (by decide))
    · exact law_0 l s _ hw tables_1 p1 p2 (5 : Int32) (2 : Int32) w_S w_X (0 : Int32) s.heap s.heap.size (Old.start s) h1 h2 (fun h O => rm1_0 l s _ hw (5 : Int32) w_IX w_IS w_X w_X_REC_NOT_GAP w_X_GAP w_S w_S_REC_NOT_GAP w_S_GAP w_X_INSERT_INTENTION w_AUTO_INC w_S h s.heap.size O S_w_IX E_w_IX S_w_IS E_w_IS S_w_X E_w_X S_w_X_REC_NOT_GAP E_w_X_REC_NOT_GAP S_w_X_GAP E_w_X_GAP S_w_S E_w_S S_w_S_REC_NOT_GAP E_w_S_REC_NOT_GAP S_w_S_GAP E_w_S_GAP S_w_X_INSERT_INTENTION E_w_X_INSERT_INTENTION S_w_AUTO_INC E_w_AUTO_INC (by decide) (by decide) rfl) (fun h O => rm1_0 l s _ hw (2 : Int32) w_IX w_IS w_X w_X_REC_NOT_GAP w_X_GAP w_S w_S_REC_NOT_GAP w_S_GAP w_X_INSERT_INTENTION w_AUTO_INC w_X h s.heap.size O S_w_IX E_w_IX S_w_IS E_w_IS S_w_X E_w_X S_w_X_REC_NOT_GAP E_w_X_REC_NOT_GAP S_w_X_GAP E_w_X_GAP S_w_S E_w_S S_w_S_REC_NOT_GAP E_w_S_REC_NOT_GAP S_w_S_GAP E_w_S_GAP S_w_X_INSERT_INTENTION E_w_X_INSERT_INTENTION S_w_AUTO_INC E_w_AUTO_INC (by decide) (by decide) rfl) E_w_S (fun h O => rm2_12 l s _ hw w_S w_X h s.heap.size O (F_insertIntention_w_S.ext O.2) (F_insertIntention_w_X.ext O.2) (Fld.ne F_ordinal_w_S F_ordinal_w_X (by decide)) (F_keyLock_w_S.ext O.2) (F_keyLock_w_X.ext O.2) (F_intention_w_S.ext O.2) (F_intention_w_X.ext O.2) (F_shared_w_S.ext O.2) (F_shared_w_X.ext O.2)) (fun h O => rm3_0 l s _ hw (5 : Int32) (2 : Int32) (224 : Int32) h s.heap.size O (by decide) (by decide) rfl (by decide))
    · exact law_0 l s _ hw tables_1 p1 p2 (5 : Int32) (3 : Int32) w_S w_X_REC_NOT_GAP (0 : Int32) s.heap s.heap.size (Old.start s) h1 h2 (fun h O => rm1_0 l s _ hw (5 : Int32) w_IX w_IS w_X w_X_REC_NOT_GAP w_X_GAP w_S w_S_REC_NOT_GAP w_S_GAP w_X_INSERT_INTENTION w_AUTO_INC w_S h s.heap.size O S_w_IX E_w_IX S_w_IS E_w_IS S_w_X E_w_X S_w_X_REC_NOT_GAP E_w_X_REC_NOT_GAP S_w_X_GAP E_w_X_GAP S_w_S E_w_S S_w_S_REC_NOT_GAP E_w_S_REC_NOT_GAP S_w_S_GAP E_w_S_GAP S_w_X_INSERT_INTENTION E_w_X_INSERT_INTENTION S_w_AUTO_INC E_w_AUTO_INC (by decide) (by decide) rfl) (fun h O => rm1_0 l s _ hw (3 : Int32) w_IX w_IS w_X w_X_REC_NOT_GAP w_X_GAP w_S w_S_REC_NOT_GAP w_S_GAP w_X_INSERT_INTENTION w_AUTO_INC w_X_REC_NOT_GAP h s.heap.size O S_w_IX E_w_IX S_w_IS E_w_IS S_w_X E_w_X S_w_X_REC_NOT_GAP E_w_X_REC_NOT_GAP S_w_X_GAP E_w_X_GAP S_w_S E_w_S S_w_S_REC_NOT_GAP E_w_S_REC_NOT_GAP S_w_S_GAP E_w_S_GAP S_w_X_INSERT_INTENTION E_w_X_INSERT_INTENTION S_w_AUTO_INC E_w_AUTO_INC (by decide) (by decide) rfl) E_w_S (fun h O => rm2_12 l s _ hw w_S w_X_REC_NOT_GAP h s.heap.size O (F_insertIntention_w_S.ext O.2) (F_insertIntention_w_X_REC_NOT_GAP.ext O.2) (Fld.ne F_ordinal_w_S F_ordinal_w_X_REC_NOT_GAP (by decide)) (F_keyLock_w_S.ext O.2) (F_keyLock_w_X_REC_NOT_GAP.ext O.2) (F_intention_w_S.ext O.2) (F_intention_w_X_REC_NOT_GAP.ext O.2) (F_shared_w_S.ext O.2) (F_shared_w_X_REC_NOT_GAP.ext O.2)) (fun h O => rm3_0 l s _ hw (5 : Int32) (3 : Int32) (224 : Int32) h s.heap.size O (by decide) (by decide) rfl (by decide))
    · exact law_0 l s _ hw tables_1 p1 p2 (5 : Int32) (4 : Int32) w_S w_X_GAP (0 : Int32) s.heap s.heap.size (Old.start s) h1 h2 (fun h O => rm1_0 l s _ hw (5 : Int32) w_IX w_IS w_X w_X_REC_NOT_GAP w_X_GAP w_S w_S_REC_NOT_GAP w_S_GAP w_X_INSERT_INTENTION w_AUTO_INC w_S h s.heap.size O S_w_IX E_w_IX S_w_IS E_w_IS S_w_X E_w_X S_w_X_REC_NOT_GAP E_w_X_REC_NOT_GAP S_w_X_GAP E_w_X_GAP S_w_S E_w_S S_w_S_REC_NOT_GAP E_w_S_REC_NOT_GAP S_w_S_GAP E_w_S_GAP S_w_X_INSERT_INTENTION E_w_X_INSERT_INTENTION S_w_AUTO_INC E_w_AUTO_INC (by decide) (by decide) rfl) (fun h O => rm1_0 l s _ hw (4 : Int32) w_IX w_IS w_X w_X_REC_NOT_GAP w_X_GAP w_S w_S_REC_NOT_GAP w_S_GAP w_X_INSERT_INTENTION w_AUTO_INC w_X_GAP h s.heap.size O S_w_IX E_w_IX S_w_IS E_w_IS S_w_X E_w_X S_w_X_REC_NOT_GAP E_w_X_REC_NOT_GAP S_w_X_GAP E_w_X_GAP S_w_S E_w_S S_w_S_REC_NOT_GAP E_w_S_REC_NOT_GAP S_w_S_GAP E_w_S_GAP S_w_X_INSERT_INTENTION E_w_X_INSERT_INTENTION S_w_AUTO_INC E_w_AUTO_INC (by decide) (by decide) rfl) E_w_S (fun h O => rm2_12 l s _ hw w_S w_X_GAP h s.heap.size O (F_insertIntention_w_S.ext O.2) (F_insertIntention_w_X_GAP.ext O.2) (Fld.ne F_ordinal_w_S F_ordinal_w_X_GAP (by decide)) (F_keyLock_w_S.ext O.2) (F_keyLock_w_X_GAP.ext O.2) (F_intention_w_S.ext O.2) (F_intention_w_X_GAP.ext O.2) (F_shared_w_S.ext O.2) (F_shared_w_X_GAP.ext O.2)) (fun h O => rm3_0 l s _ hw (5 : Int32) (4 : Int32) (224 : Int32) h s.heap.size O (by decide) (by decide) rfl (by decide))
    · exact law_0 l s _ hw tables_1 p1 p2 (5 : Int32) (5 : Int32) w_S w_S (1 : Int32) s.heap s.heap.size (Old.start s) h1 h2 (fun h O => rm1_0 l s _ hw (5 : Int32) w_IX w_IS w_X w_X_REC_NOT_GAP w_X_GAP w_S w_S_REC_NOT_GAP w_S_GAP w_X_INSERT_INTENTION w_AUTO_INC w_S h s.heap.size O S_w_IX E_w_IX S_w_IS E_w_IS S_w_X E_w_X S_w_X_REC_NOT_GAP E_w_X_REC_NOT_GAP S_w_X_GAP E_w_X_GAP S_w_S E_w_S S_w_S_REC_NOT_GAP E_w_S_REC_NOT_GAP S_w_S_GAP E_w_S_GAP S_w_X_INSERT_INTENTION E_w_X_INSERT_INTENTION S_w_AUTO_INC E_w_AUTO_INC (by decide) (by decide) rfl) (fun h O => rm1_0 l s _ hw (5 : Int32) w_IX w_IS w_X w_X_REC_NOT_GAP w_X_GAP w_S w_S_REC_NOT_GAP w_S_GAP w_X_INSERT_INTENTION w_AUTO_INC w_S h s.heap.size O S_w_IX E_w_IX S_w_IS E_w_IS S_w_X E_w_X S_w_X_REC_NOT_GAP E_w_X_REC_NOT_GAP S_w_X_GAP E_w_X_GAP S_w_S E_w_S S_w_S_REC_NOT_GAP E_w_S_REC_NOT_GAP S_w_S_GAP E_w_S_GAP S_w_X_INSERT_INTENTION E_w_X_INSERT_INTENTION S_w_AUTO_INC E_w_AUTO_INC (by decide) (by decide) rfl) E_w_S (fun h O => rm2_0 l s _ hw w_S h s.heap.size O (F_insertIntention_w_S.ext O.2)) (fun h O => rm3_1 l s _ hw (5 : Int32) (5 : Int32) (224 : Int32) h s.heap.size O (by decide) (by decide) rfl (by decide))
    · exact law_0 l s _ hw tables_1 p1 p2 (5 : Int32) (6 : Int32) w_S w_S_REC_NOT_GAP (1 : Int32) s.heap s.heap.size (Old.start s) h1 h2 (fun h O => rm1_0 l s _ hw (5 : Int32) w_IX w_IS w_X w_X_REC_NOT_GAP w_X_GAP w_S w_S_REC_NOT_GAP w_S_GAP w_X_INSERT_INTENTION w_AUTO_INC w_S h s.heap.size O S_w_IX E_w_IX S_w_IS E_w_IS S_w_X E_w_X S_w_X_REC_NOT_GAP E_w_X_REC_NOT_GAP S_w_X_GAP E_w_X_GAP S_w_S E_w_S S_w_S_REC_NOT_GAP E_w_S_REC_NOT_GAP S_w_S_GAP E_w_S_GAP S_w_X_INSERT_INTENTION E_w_X_INSERT_INTENTION S_w_AUTO_INC E_w_AUTO_INC (by decide) (by decide) rfl) (fun h O => rm1_0 l s _ hw (6 : Int32) w_IX w_IS w_X w_X_REC_NOT_GAP w_X_GAP w_S w_S_REC_NOT_GAP w_S_GAP w_X_INSERT_INTENTION w_AUTO_INC w_S_REC_NOT_GAP h s.heap.size O S_w_IX E_w_IX S_w_IS E_w_IS S_w_X E_w_X S_w_X_REC_NOT_GAP E_w_X_REC_NOT_GAP S_w_X_GAP E_w_X_GAP S_w_S E_w_S S_w_S_REC_NOT_GAP E_w_S_REC_NOT_GAP S_w_S_GAP E_w_S_GAP S_w_X_INSERT_INTENTION E_w_X_INSERT_INTENTION S_w_AUTO_INC E_w_AUTO_INC (by decide) (by decide) rfl) E_w_S (fun h O => rm2_13 l s _ hw w_S w_S_REC_NOT_GAP h s.heap.size O (F_insertIntention_w_S.ext O.2) (F_insertIntention_w_S_REC_NOT_GAP.ext O.2) (Fld.ne F_ordinal_w_S F_ordinal_w_S_REC_NOT_GAP (by decide)) (F_keyLock_w_S.ext O.2) (F_keyLock_w_S_REC_NOT_GAP.ext O.2) (F_intention_w_S.ext O.2) (F_intention_w_S_REC_NOT_GAP.ext O.2) (F_shared_w_S.ext O.2) (F_shared_w_S_REC_NOT_GAP.ext O.2) (F_coversTarget_w_S.ext O.2) (F_coversGap_w_S.ext O.2)) (fun h O => rm3_1 l s _ hw (5 : Int32) (6 : Int32) (224 : Int32) h s.heap.size O (by decide) (by decide) rfl (by decide))
    · exact law_0 l s _ hw tables_1 p1 p2 (5 : Int32) (7 : Int32) w_S w_S_GAP (1 : Int32) s.heap s.heap.size (Old.start s) h1 h2 (fun h O => rm1_0 l s _ hw (5 : Int32) w_IX w_IS w_X w_X_REC_NOT_GAP w_X_GAP w_S w_S_REC_NOT_GAP w_S_GAP w_X_INSERT_INTENTION w_AUTO_INC w_S h s.heap.size O S_w_IX E_w_IX S_w_IS E_w_IS S_w_X E_w_X S_w_X_REC_NOT_GAP E_w_X_REC_NOT_GAP S_w_X_GAP E_w_X_GAP S_w_S E_w_S S_w_S_REC_NOT_GAP E_w_S_REC_NOT_GAP S_w_S_GAP E_w_S_GAP S_w_X_INSERT_INTENTION E_w_X_INSERT_INTENTION S_w_AUTO_INC E_w_AUTO_INC (by decide) (by decide) rfl) (fun h O => rm1_0 l s _ hw (7 : Int32) w_IX w_IS w_X w_X_REC_NOT_GAP w_X_GAP w_S w_S_REC_NOT_GAP w_S_GAP w_X_INSERT_INTENTION w_AUTO_INC w_S_GAP h s.heap.size O S_w_IX E_w_IX S_w_IS E_w_IS S_w_X E_w_X S_w_X_REC_NOT_GAP E_w_X_REC_NOT_GAP S_w_X_GAP E_w_X_GAP S_w_S E_w_S S_w_S_REC_NOT_GAP E_w_S_REC_NOT_GAP S_w_S_GAP E_w_S_GAP S_w_X_INSERT_INTENTION E_w_X_INSERT_INTENTION S_w_AUTO_INC E_w_AUTO_INC (by decide) (by decide) rfl) E_w_S (fun h O => rm2_13 l s _ hw w_S w_S_GAP h s.heap.size O (F_insertIntention_w_S.ext O.2) (F_insertIntention_w_S_GAP.ext O.2) (Fld.ne F_ordinal_w_S F_ordinal_w_S_GAP (by decide)) (F_keyLock_w_S.ext O.2) (F_keyLock_w_S_GAP.ext O.2) (F_intention_w_S.ext O.2) (F_intention_w_S_GAP.ext O.2) (F_shared_w_S.ext O.2) (F_shared_w_S_GAP.ext O.2) (F_coversTarget_w_S.ext O.2) (F_coversGap_w_S.ext O.2)) (fun h O => rm3_1 l s _ hw (5 : Int32) (7 : Int32) (224 : Int32) h s.heap.size O (by decide) (by decide) rfl (by decide))
    · exact law_0 l s _ hw tables_1 p1 p2 (5 : Int32) (8 : Int32) w_S w_X_INSERT_INTENTION (0 : Int32) s.heap s.heap.size (Old.start s) h1 h2 (fun h O => rm1_0 l s _ hw (5 : Int32) w_IX w_IS w_X w_X_REC_NOT_GAP w_X_GAP w_S w_S_REC_NOT_GAP w_S_GAP w_X_INSERT_INTENTION w_AUTO_INC w_S h s.heap.size O S_w_IX E_w_IX S_w_IS E_w_IS S_w_X E_w_X S_w_X_REC_NOT_GAP E_w_X_REC_NOT_GAP S_w_X_GAP E_w_X_GAP S_w_S E_w_S S_w_S_REC_NOT_GAP E_w_S_REC_NOT_GAP S_w_S_GAP E_w_S_GAP S_w_X_INSERT_INTENTION E_w_X_INSERT_INTENTION S_w_AUTO_INC E_w_AUTO_INC (by decide) (by decide) rfl) (fun h O => rm1_0 l s _ hw (8 : Int32) w_IX w_IS w_X w_X_REC_NOT_GAP w_X_GAP w_S w_S_REC_NOT_GAP w_S_GAP w_X_INSERT_INTENTION w_AUTO_INC w_X_INSERT_INTENTION h s.heap.size O S_w_IX E_w_IX S_w_IS E_w_IS S_w_X E_w_X S_w_X_REC_NOT_GAP E_w_X_REC_NOT_GAP S_w_X_GAP E_w_X_GAP S_w_S E_w_S S_w_S_REC_NOT_GAP E_w_S_REC_NOT_GAP S_w_S_GAP E_w_S_GAP S_w_X_INSERT_INTENTION E_w_X_INSERT_INTENTION S_w_AUTO_INC E_w_AUTO_INC (by decide) (by decide) rfl) E_w_S (fun h O => rm2_3 l s _ hw w_S w_X_INSERT_INTENTION h s.heap.size O (F_insertIntention_w_S.ext O.2) (F_insertIntention_w_X_INSERT_INTENTION.ext O.2)) (fun h O => rm3_0 l s _ hw (5 : Int32) (8 : Int32) (224 : Int32) h s.heap.size O (by decide) (by decide) rfl (by decide))
    · exact law_0 l s _ hw tables_1 p1 p2 (5 : Int32) (9 : Int32) w_S w_AUTO_INC (0 : Int32) s.heap s.heap.size (Old.start s) h1 h2 (fun h O => rm1_0 l s _ hw (5 : Int32) w_IX w_IS w_X w_X_REC_NOT_GAP w_X_GAP w_S w_S_REC_NOT_GAP w_S_GAP w_X_INSERT_INTENTION w_AUTO_INC w_S h s.heap.size O S_w_IX E_w_IX S_w_IS E_w_IS S_w_X E_w_X S_w_X_REC_NOT_GAP E_w_X_REC_NOT_GAP S_w_X_GAP E_w_X_GAP S_w_S E_w_S S_w_S_REC_NOT_GAP E_w_S_REC_NOT_GAP S_w_S_GAP E_w_S_GAP S_w_X_INSERT_INTENTION E_w_X_INSERT_INTENTION S_w_AUTO_INC E_w_AUTO_INC (by decide) (by decide) rfl) (fun h O => rm1_0 l s _ hw (9 : Int32) w_IX w_IS w_X w_X_REC_NOT_GAP w_X_GAP w_S w_S_REC_NOT_GAP w_S_GAP w_X_INSERT_INTENTION w_AUTO_INC w_AUTO_INC h s.heap.size O S_w_IX E_w_IX S_w_IS E_w_IS S_w_X E_w_X S_w_X_REC_NOT_GAP E_w_X_REC_NOT_GAP S_w_X_GAP E_w_X_GAP S_w_S E_w_S S_w_S_REC_NOT_GAP E_w_S_REC_NOT_GAP S_w_S_GAP E_w_S_GAP S_w_X_INSERT_INTENTION E_w_X_INSERT_INTENTION S_w_AUTO_INC E_w_AUTO_INC (by decide) (by decide) rfl) E_w_S (fun h O => rm2_4 l s _ hw w_S w_AUTO_INC h s.heap.size O (F_insertIntention_w_S.ext O.2) (F_insertIntention_w_AUTO_INC.ext O.2) (Fld.ne F_ordinal_w_S F_ordinal_w_AUTO_INC (by decide)) (F_keyLock_w_S.ext O.2) (F_keyLock_w_AUTO_INC.ext O.2)) (fun h O => rm3_0 l s _ hw (5 : Int32) (9 : Int32) (224 : Int32) h s.heap.size O (by decide) (by decide) rfl (by decide))
    · exact law_0 l s _ hw tables_1 p1 p2 (6 : Int32) (0 : Int32) w_S_REC_NOT_GAP w_IX (0 : Int32) s.heap s.heap.size (Old.start s) h1 h2 (fun h O => rm1_0 l s _ hw (6 : Int32) w_IX w_IS w_X w_X_REC_NOT_GAP w_X_GAP w_S w_S_REC_NOT_GAP w_S_GAP w_X_INSERT_INTENTION w_AUTO_INC w_S_REC_NOT_GAP h s.heap.size O S_w_IX E_w_IX S_w_IS E_w_IS S_w_X E_w_X S_w_X_REC_NOT_GAP E_w_X_REC_NOT_GAP S_w_X_GAP E_w_X_GAP S_w_S E_w_S S_w_S_REC_NOT_GAP E_w_S_REC_NOT_GAP S_w_S_GAP E_w_S_GAP S_w_X_INSERT_INTENTION E_w_X_INSERT_INTENTION S_w_AUTO_INC E_w_AUTO_INC (by decide) (by decide) rfl) (fun h O => rm1_0 l s _ hw (0 : Int32) w_IX w_IS w_X w_X_REC_NOT_GAP w_X_GAP w_S w_S_REC_NOT_GAP w_S_GAP w_X_INSERT_INTENTION w_AUTO_INC w_IX h s.heap.size O S_w_IX E_w_IX S_w_IS E_w_IS S_w_X E_w_X S_w_X_REC_NOT_GAP E_w_X_REC_NOT_GAP S_w_X_GAP E_w_X_GAP S_w_S E_w_S S_w_S_REC_NOT_GAP E_w_S_REC_NOT_GAP S_w_S_GAP E_w_S_GAP S_w_X_INSERT_INTENTION E_w_X_INSERT_INTENTION S_w_AUTO_INC E_w_AUTO_INC (by decide) (by decide) rfl) E_w_S_REC_NOT_GAP (fun h O => rm2_6 l s _ hw w_S_REC_NOT_GAP w_IX h s.heap.size O (F_insertIntention_w_S_REC_NOT_GAP.ext O.2) (F_insertIntention_w_IX.ext O.2) (Fld.ne F_ordinal_w_S_REC_NOT_GAP F_ordinal_w_IX (by decide)) (F_keyLock_w_S_REC_NOT_GAP.ext O.2) (F_keyLock_w_IX.ext O.2) (F_intention_w_S_REC_NOT_GAP.ext O.2) (F_intention_w_IX.ext O.2)) (fun h O => rm3_0 l s _ hw (6 : Int32) (0 : Int32) (64 : Int32) h s.heap.size O (by decide) (by decide) rfl (by decide))
    · exact law_0 l s _ hw tables_1 p1 p2 (6 : Int32) (1 : Int32) w_S_REC_NOT_GAP w_IS (0 : Int32) s.heap s.heap.size (Old.start s) h1 h2 (fun h O => rm1_0 l s _ hw (6 : Int32) w_IX w_IS w_X w_X_REC_NOT_GAP w_X_GAP w_S w_S_REC_NOT_GAP w_S_GAP w_X_INSERT_INTENTION w_AUTO_INC w_S_REC_NOT_GAP h s.heap.size O S_w_IX E_w_IX S_w_IS E_w_IS S_w_X E_w_X S_w_X_REC_NOT_GAP E_w_X_REC_NOT_GAP S_w_X_GAP E_w_X_GAP S_w_S E_w_S S_w_S_REC_NOT_GAP E_w_S_REC_NOT_GAP S_w_S_GAP E_w_S_GAP S_w_X_INSERT_INTENTION E_w_X_INSERT_INTENTION S_w_AUTO_INC E_w_AUTO_INC (by decide) (by decide) rfl) (fun h O => rm1_0 l s _ hw (1 : Int32) w_IX w_IS w_X w_X_REC_NOT_GAP w_X_GAP w_S w_S_REC_NOT_GAP w_S_GAP w_X_INSERT_INTENTION w_AUTO_INC w_IS h s.heap.size O S_w_IX E_w_IX S_w_IS E_w_IS S_w_X E_w_X S_w_X_REC_NOT_GAP E_w_X_REC_NOT_GAP S_w_X_GAP E_w_X_GAP S_w_S E_w_S S_w_S_REC_NOT_GAP E_w_S_REC_NOT_GAP S_w_S_GAP E_w_S_GAP S_w_X_INSERT_INTENTION E_w_X_INSERT_INTENTION S_w_AUTO_INC E_w_AUTO_INC (by decide) (by decide) rfl) E_w_S_REC_NOT_GAP (fun h O => rm2_6 l s _ hw w_S_REC_NOT_GAP w_IS h s.heap.size O (F_insertIntention_w_S_REC_NOT_GAP.ext O.2) (F_insertIntention_w_IS.ext O.2) (Fld.ne F_ordinal_w_S_REC_NOT_GAP F_ordinal_w_IS (by decide)) (F_keyLock_w_S_REC_NOT_GAP.ext O.2) (F_keyLock_w_IS.ext O.2) (F_intention_w_S_REC_NOT_GAP.ext O.2) (F_intention_w_IS.ext O.2)) (fun h O => rm3_0 l s _ hw (6 : Int32) (1 : Int32) (64 : Int32) h s.heap.size O (by decide) (by decide) rfl (by decide))
    · exact law_0 l s _ hw tables_1 p1 p2 (6 : Int32) (2 : Int32) w_S_REC_NOT_GAP w_X (0 : Int32) s.heap s.heap.size (Old.start s) h1 h2 (fun h O => rm1_0 l s _ hw (6 : Int32) w_IX w_IS w_X w_X_REC_NOT_GAP w_X_GAP w_S w_S_REC_NOT_GAP w_S_GAP w_X_INSERT_INTENTION w_AUTO_INC w_S_REC_NOT_GAP h s.heap.size O S_w_IX E_w_IX S_w_IS E_w_IS S_w_X E_w_X S_w_X_REC_NOT_GAP E_w_X_REC_NOT_GAP S_w_X_GAP E_w_X_GAP S_w_S E_w_S S_w_S_REC_NOT_GAP E_w_S_REC_NOT_GAP S_w_S_GAP E_w_S_GAP S_w_X_INSERT_INTENTION E_w_X_INSERT_INTENTION S_w_AUTO_INC E_w_AUTO_INC (by decide) (by decide) rfl) (fun h O => rm1_0 l s _ hw (2 : Int32) w_IX w_IS w_X w_X_REC_NOT_GAP w_X_GAP w_S w_S_REC_NOT_GAP w_S_GAP w_X_INSERT_INTENTION w_AUTO_INC w_X h s.heap.size O S_w_IX E_w_IX S_w_IS E_w_IS S_w_X E_w_X S_w_X_REC_NOT_GAP E_w_X_REC_NOT_GAP S_w_X_GAP E_w_X_GAP S_w_S E_w_S S_w_S_REC_NOT_GAP E_w_S_REC_NOT_GAP S_w_S_GAP E_w_S_GAP S_w_X_INSERT_INTENTION E_w_X_INSERT_INTENTION S_w_AUTO_INC E_w_AUTO_INC (by decide) (by decide) rfl) E_w_S_REC_NOT_GAP (fun h O => rm2_12 l s _ hw w_S_REC_NOT_GAP w_X h s.heap.size O (F_insertIntention_w_S_REC_NOT_GAP.ext O.2) (F_insertIntention_w_X.ext O.2) (Fld.ne F_ordinal_w_S_REC_NOT_GAP F_ordinal_w_X (by decide)) (F_keyLock_w_S_REC_NOT_GAP.ext O.2) (F_keyLock_w_X.ext O.2) (F_intention_w_S_REC_NOT_GAP.ext O.2) (F_intention_w_X.ext O.2) (F_shared_w_S_REC_NOT_GAP.ext O.2) (F_shared_w_X.ext O.2)) (fun h O => rm3_0 l s _ hw (6 : Int32) (2 : Int32) (64 : Int32) h s.heap.size O (by decide) (by decide) rfl (by decide))
    · exact law_0 l s _ hw tables_1 p1 p2 (6 : Int32) (3 : Int32) w_S_REC_NOT_GAP w_X_REC_NOT_GAP (0 : Int32) s.heap s.heap.size (Old.start s) h1 h2 (fun h O => rm1_0 l s _ hw (6 : Int32) w_IX w_IS w_X w_X_REC_NOT_GAP w_X_GAP w_S w_S_REC_NOT_GAP w_S_GAP w_X_INSERT_INTENTION w_AUTO_INC w_S_REC_NOT_GAP h s.heap.size O S_w_IX E_w_IX S_w_IS E_w_IS S_w_X E_w_X S_w_X_REC_NOT_GAP E_w_X_REC_NOT_GAP S_w_X_GAP E_w_X_GAP S_w_S E_w_S S_w_S_REC_NOT_GAP E_w_S_REC_NOT_GAP S_w_S_GAP E_w_S_GAP S_w_X_INSERT_INTENTION E_w_X_INSERT_INTENTION S_w_AUTO_INC E_w_AUTO_INC (by decide) (by decide) rfl) (fun h O => rm1_0 l s _ hw (3 : Int32) w_IX w_IS w_X w_X_REC_NOT_GAP w_X_GAP w_S w_S_REC_NOT_GAP w_S_GAP w_X_INSERT_INTENTION w_AUTO_INC w_X_REC_NOT_GAP h s.heap.size O S_w_IX E_w_IX S_w_IS E_w_IS S_w_X E_w_X S_w_X_REC_NOT_GAP E_w_X_REC_NOT_GAP S_w_X_GAP E_w_X_GAP S_w_S E_w_S S_w_S_REC_NOT_GAP E_w_S_REC_NOT_GAP S_w_S_GAP E_w_S_GAP S_w_X_INSERT_INTENTION E_w_X_INSERT_INTENTION S_w_AUTO_INC E_w_AUTO_INC (by decide) (by decide) rfl) E_w_S_REC_NOT_GAP (fun h O => rm2_12 l s _ hw w_S_REC_NOT_GAP w_X_REC_NOT_GAP h s.heap.size O (F_insertIntention_w_S_REC_NOT_GAP.ext O.2) (F_insertIntention_w_X_REC_NOT_GAP.ext O.2) (Fld.ne F_ordinal_w_S_REC_NOT_GAP F_ordinal_w_X_REC_NOT_GAP (by decide)) (F_keyLock_w_S_REC_NOT_GAP.ext O.2) (F_keyLock_w_X_REC_NOT_GAP.ext O.2) (F_intention_w_S_REC_NOT_GAP.ext O.2) (F_intention_w_X_REC_NOT_GAP.ext O.2) (F_shared_w_S_REC_NOT_GAP.ext O.2) (F_shared_w_X_REC_NOT_GAP.ext O.2)) (fun h O => rm3_0 l s _ hw (6 : Int32) (3 : Int32) (64 : Int32) h s.heap.size O (by decide) (by decide) rfl (by decide))
    · exact law_0 l s _ hw tables_1 p1 p2 (6 : Int32) (4 : Int32) w_S_REC_NOT_GAP w_X_GAP (0 : Int32) s.heap s.heap.size (Old.start s) h1 h2 (fun h O => rm1_0 l s _ hw (6 : Int32) w_IX w_IS w_X w_X_REC_NOT_GAP w_X_GAP w_S w_S_REC_NOT_GAP w_S_GAP w_X_INSERT_INTENTION w_AUTO_INC w_S_REC_NOT_GAP h s.heap.size O S_w_IX E_w_IX S_w_IS E_w_IS S_w_X E_w_X S_w_X_REC_NOT_GAP E_w_X_REC_NOT_GAP S_w_X_GAP E_w_X_GAP S_w_S E_w_S S_w_S_REC_NOT_GAP E_w_S_REC_NOT_GAP S_w_S_GAP E_w_S_GAP S_w_X_INSERT_INTENTION E_w_X_INSERT_INTENTION S_w_AUTO_INC E_w_AUTO_INC (by decide) (by decide) rfl) (fun h O => rm1_0 l s _ hw (4 : Int32) w_IX w_IS w_X w_X_REC_NOT_GAP w_X_GAP w_S w_S_REC_NOT_GAP w_S_GAP w_X_INSERT_INTENTION w_AUTO_INC w_X_GAP h s.heap.size O S_w_IX E_w_IX S_w_IS E_w_IS S_w_X E_w_X S_w_X_REC_NOT_GAP E_w_X_REC_NOT_GAP S_w_X_GAP E_w_X_GAP S_w_S E_w_S S_w_S_REC_NOT_GAP E_w_S_REC_NOT_GAP S_w_S_GAP E_w_S_GAP S_w_X_INSERT_INTENTION E_w_X_INSERT_INTENTION S_w_AUTO_INC E_w_AUTO_INC (by decide) (by decide) rfl) E_w_S_REC_NOT_GAP (fun h O => rm2_12 l s _ hw w_S_REC_NOT_GAP w_X_GAP h s.heap.size O (F_insertIntention_w_S_REC_NOT_GAP.ext O.2) (F_insertIntention_w_X_GAP.ext O.2) (Fld.ne F_ordinal_w_S_REC_NOT_GAP F_ordinal_w_X_GAP (by decide)) (F_keyLock_w_S_REC_NOT_GAP.ext O.2) (F_keyLock_w_X_GAP.ext O.2) (F_intention_w_S_REC_NOT_GAP.ext O.2) (F_intention_w_X_GAP.ext O.2) (F_shared_w_S_REC_NOT_GAP.ext O.2) (F_shared_w_X_GAP.ext O.2)) (fun h O => rm3_0 l s _ hw (6 : Int32) (4 : Int32) (64 : Int32) h s.heap.size O (by decide) (by decide) rfl (by decide))
    · exact law_0 l s _ hw tables_1 p1 p2 (6 : Int32) (5 : Int32) w_S_REC_NOT_GAP w_S (0 : Int32) s.heap s.heap.size (Old.start s) h1 h2 (fun h O => rm1_0 l s _ hw (6 : Int32) w_IX w_IS w_X w_X_REC_NOT_GAP w_X_GAP w_S w_S_REC_NOT_GAP w_S_GAP w_X_INSERT_INTENTION w_AUTO_INC w_S_REC_NOT_GAP h s.heap.size O S_w_IX E_w_IX S_w_IS E_w_IS S_w_X E_w_X S_w_X_REC_NOT_GAP E_w_X_REC_NOT_GAP S_w_X_GAP E_w_X_GAP S_w_S E_w_S S_w_S_REC_NOT_GAP E_w_S_REC_NOT_GAP S_w_S_GAP E_w_S_GAP S_w_X_INSERT_INTENTION E_w_X_INSERT_INTENTION S_w_AUTO_INC E_w_AUTO_INC (by decide) (by decide) rfl) (fun h O => rm1_0 l s _ hw (5 : Int32) w_IX w_IS w_X w_X_REC_NOT_GAP w_X_GAP w_S w_S_REC_NOT_GAP w_S_GAP w_X_INSERT_INTENTION w_AUTO_INC w_S h s.heap.size O S_w_IX E_w_IX S_w_IS E_w_IS S_w_X E_w_X S_w_X_REC_NOT_GAP E_w_X_REC_NOT_GAP S_w_X_GAP E_w_X_GAP S_w_S E_w_S S_w_S_REC_NOT_GAP E_w_S_REC_NOT_GAP S_w_S_GAP E_w_S_GAP S_w_X_INSERT_INTENTION E_w_X_INSERT_INTENTION S_w_AUTO_INC E_w_AUTO_INC (by decide) (by decide) rfl) E_w_S_REC_NOT_GAP (fun h O => rm2_14 l s _ hw w_S_REC_NOT_GAP w_S h s.heap.size O (F_insertIntention_w_S_REC_NOT_GAP.ext O.2) (F_insertIntention_w_S.ext O.2) (Fld.ne F_ordinal_w_S_REC_NOT_GAP F_ordinal_w_S (by decide)) (F_keyLock_w_S_REC_NOT_GAP.ext O.2) (F_keyLock_w_S.ext O.2) (F_intention_w_S_REC_NOT_GAP.ext O.2) (F_intention_w_S.ext O.2) (F_shared_w_S_REC_NOT_GAP.ext O.2) (F_shared_w_S.ext O.2) (F_coversTarget_w_S_REC_NOT_GAP.ext O.2) (F_coversGap_w_S_REC_NOT_GAP.ext O.2) (F_coversGap_w_S.ext O.2)) (fun h O => rm3_0 l s _ hw (6 : Int32) (5 : Int32) (64 : Int32) h s.heap.size O (by decide) (by decide) rfl (by decide))
    · exact law_0 l s _ hw tables_1 p1 p2 (6 : Int32) (6 : Int32) w_S_REC_NOT_GAP w_S_REC_NOT_GAP (1 : Int32) s.heap s.heap.size (Old.start s) h1 h2 (fun h O => rm1_0 l s _ hw (6 : Int32) w_IX w_IS w_X w_X_REC_NOT_GAP w_X_GAP w_S w_S_REC_NOT_GAP w_S_GAP w_X_INSERT_INTENTION w_AUTO_INC w_S_REC_NOT_GAP h s.heap.size O S_w_IX E_w_IX S_w_IS E_w_IS S_w_X E_w_X S_w_X_REC_NOT_GAP E_w_X_REC_NOT_GAP S_w_X_GAP E_w_X_GAP S_w_S E_w_S S_w_S_REC_NOT_GAP E_w_S_REC_NOT_GAP S_w_S_GAP E_w_S_GAP S_w_X_INSERT_INTENTION E_w_X_INSERT_INTENTION S_w_AUTO_INC E_w_AUTO_INC (by decide) (by decide) rfl) (fun h O => rm1_0 l s _ hw (6 : Int32) w_IX w_IS w_X w_X_REC_NOT_GAP w_X_GAP w_S w_S_REC_NOT_GAP w_S_GAP w_X_INSERT_INTENTION w_AUTO_INC w_S_REC_NOT_GAP h s.heap.size O S_w_IX E_w_IX S_w_IS E_w_IS S_w_X E_w_X S_w_X_REC_NOT_GAP E_w_X_REC_NOT_GAP S_w_X_GAP E_w_X_GAP S_w_S E_w_S S_w_S_REC_NOT_GAP E_w_S_REC_NOT_GAP S_w_S_GAP E_w_S_GAP S_w_X_INSERT_INTENTION E_w_X_INSERT_INTENTION S_w_AUTO_INC E_w_AUTO_INC (by decide) (by decide) rfl) E_w_S_REC_NOT_GAP (fun h O => rm2_0 l s _ hw w_S_REC_NOT_GAP h s.heap.size O (F_insertIntention_w_S_REC_NOT_GAP.ext O.2)) (fun h O => rm3_1 l s _ hw (6 : Int32) (6 : Int32) (64 : Int32) h s.heap.size O (by decide) (by decide) rfl (by decide))
    · exact law_0 l s _ hw tables_1 p1 p2 (6 : Int32) (7 : Int32) w_S_REC_NOT_GAP w_S_GAP (0 : Int32) s.heap s.heap.size (Old.start s) h1 h2 (fun h O => rm1_0 l s _ hw (6 : Int32) w_IX w_IS w_X w_X_REC_NOT_GAP w_X_GAP w_S w_S_REC_NOT_GAP w_S_GAP w_X_INSERT_INTENTION w_AUTO_INC w_S_REC_NOT_GAP h s.heap.size O S_w_IX E_w_IX S_w_IS E_w_IS S_w_X E_w_X S_w_X_REC_NOT_GAP E_w_X_REC_NOT_GAP S_w_X_GAP E_w_X_GAP S_w_S E_w_S S_w_S_REC_NOT_GAP E_w_S_REC_NOT_GAP S_w_S_GAP E_w_S_GAP S_w_X_INSERT_INTENTION E_w_X_INSERT_INTENTION S_w_AUTO_INC E_w_AUTO_INC (by decide) (by decide) rfl) (fun h O => rm1_0 l s _ hw (7 : Int32) w_IX w_IS w_X w_X_REC_NOT_GAP w_X_GAP w_S w_S_REC_NOT_GAP w_S_GAP w_X_INSERT_INTENTION w_AUTO_INC w_S_GAP h s.heap.size O S_w_IX E_w_IX S_w_IS E_w_IS S_w_X E_w_X S_w_X_REC_NOT_GAP E_w_X_REC_NOT_GAP S_w_X_GAP E_w_X_GAP S_w_S E_w_S S_w_S_REC_NOT_GAP E_w_S_REC_NOT_GAP S_w_S_GAP E_w_S_GAP S_w_X_INSERT_INTENTION E_w_X_INSERT_INTENTION S_w_AUTO_INC E_w_AUTO_INC (by decide) (by decide) rfl) E_w_S_REC_NOT_GAP (fun h O => rm2_14 l s _ hw w_S_REC_NOT_GAP w_S_GAP h s.heap.size O (F_insertIntention_w_S_REC_NOT_GAP.ext O.2) (F_insertIntention_w_S_GAP.ext O.2) (Fld.ne F_ordinal_w_S_REC_NOT_GAP F_ordinal_w_S_GAP (by decide)) (F_keyLock_w_S_REC_NOT_GAP.ext O.2) (F_keyLock_w_S_GAP.ext O.2) (F_intention_w_S_REC_NOT_GAP.ext O.2) (F_intention_w_S_GAP.ext O.2) (F_shared_w_S_REC_NOT_GAP.ext O.2) (F_shared_w_S_GAP.ext O.2) (F_coversTarget_w_S_REC_NOT_GAP.ext O.2) (F_coversGap_w_S_REC_NOT_GAP.ext O.2) (F_coversGap_w_S_GAP.ext O.2)) (fun h O => rm3_0 l s _ hw (6 : Int32) (7 : Int32) (64 : Int32) h s.heap.size O (by decide) (by decide) rfl (by decide))
    · exact law_0 l s _ hw tables_1 p1 p2 (6 : Int32) (8 : Int32) w_S_REC_NOT_GAP w_X_INSERT_INTENTION (0 : Int32) s.heap s.heap.size (Old.start s) h1 h2 (fun h O => rm1_0 l s _ hw (6 : Int32) w_IX w_IS w_X w_X_REC_NOT_GAP w_X_GAP w_S w_S_REC_NOT_GAP w_S_GAP w_X_INSERT_INTENTION w_AUTO_INC w_S_REC_NOT_GAP h s.heap.size O S_w_IX E_w_IX S_w_IS E_w_IS S_w_X E_w_X S_w_X_REC_NOT_GAP E_w_X_REC_NOT_GAP S_w_X_GAP E_w_X_GAP S_w_S E_w_S S_w_S_REC_NOT_GAP E_w_S_REC_NOT_GAP S_w_S_GAP E_w_S_GAP S_w_X_INSERT_INTENTION E_w_X_INSERT_INTENTION S_w_AUTO_INC E_w_AUTO_INC (by decide) (by decide) rfl) (fun h O => rm1_0 l s _ hw (8 : Int32) w_IX w_IS w_X w_X_REC_NOT_GAP w_X_GAP w_S w_S_REC_NOT_GAP w_S_GAP w_X_INSERT_INTENTION w_AUTO_INC w_X_INSERT_INTENTION h s.heap.size O S_w_IX E_w_IX S_w_IS E_w_IS S_w_X E_w_X S_w_X_REC_NOT_GAP E_w_X_REC_NOT_GAP S_w_X_GAP E_w_X_GAP S_w_S E_w_S S_w_S_REC_NOT_GAP E_w_S_REC_NOT_GAP S_w_S_GAP E_w_S_GAP S_w_X_INSERT_INTENTION E_w_X_INSERT_INTENTION S_w_AUTO_INC E_w_AUTO_INC (by decide) (by decide) rfl) E_w_S_REC_NOT_GAP (fun h O => rm2_3 l s _ hw w_S_REC_NOT_GAP w_X_INSERT_INTENTION h s.heap.size O (F_insertIntention_w_S_REC_NOT_GAP.ext O.2) (F_insertIntention_w_X_INSERT_INTENTION.ext O.2)) (fun h O => rm3_0 l s _ hw (6 : Int32) (8 : Int32) (64 : Int32) h s.heap.size O (by decide) (by decide) rfl (by decide))
    · exact law_0 l s _ hw tables_1 p1 p2 (6 : Int32) (9 : Int32) w_S_REC_NOT_GAP w_AUTO_INC (0 : Int32) s.heap s.heap.size (Old.start s) h1 h2 (fun h O => rm1_0 l s _ hw (6 : Int32) w_IX w_IS w_X w_X_REC_NOT_GAP w_X_GAP w_S w_S_REC_NOT_GAP w_S_GAP w_X_INSERT_INTENTION w_AUTO_INC w_S_REC_NOT_GAP h s.heap.size O S_w_IX E_w_IX S_w_IS E_w_IS S_w_X E_w_X S_w_X_REC_NOT_GAP E_w_X_REC_NOT_GAP S_w_X_GAP E_w_X_GAP S_w_S E_w_S S_w_S_REC_NOT_GAP E_w_S_REC_NOT_GAP S_w_S_GAP E_w_S_GAP S_w_X_INSERT_INTENTION E_w_X_INSERT_INTENTION S_w_AUTO_INC E_w_AUTO_INC (by decide) (by decide) rfl) (fun h O => rm1_0 l s _ hw (9 : Int32) w_IX w_IS w_X w_X_REC_NOT_GAP w_X_GAP w_S w_S_REC_NOT_GAP w_S_GAP w_X_INSERT_INTENTION w_AUTO_INC w_AUTO_INC h s.heap.size O S_w_IX E_w_IX S_w_IS E_w_IS S_w_X E_w_X S_w_X_REC_NOT_GAP E_w_X_REC_NOT_GAP S_w_X_GAP E_w_X_GAP S_w_S E_w_S S_w_S_REC_NOT_GAP E_w_S_REC_NOT_GAP S_w_S_GAP E_w_S_GAP S_w_X_INSERT_INTENTION E_w_X_INSERT_INTENTION S_w_AUTO_INC E_w_AUTO_INC (by decide) (by decide) rfl) E_w_S_REC_NOT_GAP (fun h O => rm2_4 l s _ hw w_S_REC_NOT_GAP w_AUTO_INC h s.heap.size O (F_insertIntention_w_S_REC_NOT_GAP.ext O.2) (F_insertIntention_w_AUTO_INC.ext O.2) (Fld.ne F_ordinal_w_S_REC_NOT_GAP F_ordinal_w_AUTO_INC (by decide)) (F_keyLock_w_S_REC_NOT_GAP.ext O.2) (F_keyLock_w_AUTO_INC.ext O.2)) (fun h O => rm3_0 l s _ hw (6 : Int32) (9 : Int32) (64 : Int32) h s.heap.size O (by decide) (by decide) rfl (by decide))
    · exact law_0 l s _ hw tables_1 p1 p2 (7 : Int32) (0 : Int32) w_S_GAP w_IX (0 : Int32) s.heap s.heap.size (Old.start s) h1 h2 (fun h O => rm1_0 l s _ hw (7 : Int32) w_IX w_IS w_X w_X_REC_NOT_GAP w_X_GAP w_S w_S_REC_NOT_GAP w_S_GAP w_X_INSERT_INTENTION w_AUTO_INC w_S_GAP h s.heap.size O S_w_IX E_w_IX S_w_IS E_w_IS S_w_X E_w_X S_w_X_REC_NOT_GAP E_w_X_REC_NOT_GAP S_w_X_GAP E_w_X_GAP S_w_S E_w_S S_w_S_REC_NOT_GAP E_w_S_REC_NOT_GAP S_w_S_GAP E_w_S_GAP S_w_X_INSERT_INTENTION E_w_X_INSERT_INTENTION S_w_AUTO_INC E_w_AUTO_INC (by decide) (by decide) rfl) (fun h O => rm1_0 l s _ hw (0 : Int32) w_IX w_IS w_X w_X_REC_NOT_GAP w_X_GAP w_S w_S_REC_NOT_GAP w_S_GAP w_X_INSERT_INTENTION w_AUTO_INC w_IX h s.heap.size O S_w_IX E_w_IX S_w_IS E_w_IS S_w_X E_w_X S_w_X_REC_NOT_GAP E_w_X_REC_NOT_GAP S_w_X_GAP E_w_X_GAP S_w_S E_w_S S_w_S_REC_NOT_GAP E_w_S_REC_NOT_GAP S_w_S_GAP E_w_S_GAP S_w_X_INSERT_INTENTION E_w_X_INSERT_INTENTION S_w_AUTO_INC E_w_AUTO_INC (by decide) (by decide) rfl) E_w_S_GAP (fun h O => rm2_6 l s _ hw w_S_GAP w_IX h s.heap.size O (F_insertIntention_w_S_GAP.ext O.2) (F_insertIntention_w_IX.ext O.2) (Fld.ne F_ordinal_w_S_GAP F_ordinal_w_IX (by decide)) (F_keyLock_w_S_GAP.ext O.2) (F_keyLock_w_IX.ext O.2) (F_intention_w_S_GAP.ext O.2) (F_intention_w_IX.ext O.2)) (fun h O => rm3_0 l s _ hw (7 : Int32) (0 : Int32) (128 : Int32) h s.heap.size O (by decide) (by decide) rfl (by decide))
    · exact law_0 l s _ hw tables_1 p1 p2 (7 : Int32) (1 : Int32) w_S_GAP w_IS (0 : Int32) s.heap s.heap.size (Old.start s) h1 h2 (fun h O => rm1_0 l s _ hw (7 : Int32) w_IX w_IS w_X w_X_REC_NOT_GAP w_X_GAP w_S w_S_REC_NOT_GAP w_S_GAP w_X_INSERT_INTENTION w_AUTO_INC w_S_GAP h s.heap.size O S_w_IX E_w_IX S_w_IS E_w_IS S_w_X E_w_X S_w_X_REC_NOT_GAP E_w_X_REC_NOT_GAP S_w_X_GAP E_w_X_GAP S_w_S E_w_S S_w_S_REC_NOT_GAP E_w_S_REC_NOT_GAP S_w_S_GAP E_w_S_GAP S_w_X_INSERT_INTENTION E_w_X_INSERT_INTENTION S_w_AUTO_INC E_w_AUTO_INC (by decide) (by decide) rfl) (fun h O => rm1_0 l s _ hw (1 : Int32) w_IX w_IS w_X w_X_REC_NOT_GAP w_X_GAP w_S w_S_REC_NOT_GAP w_S_GAP w_X_INSERT_INTENTION w_AUTO_INC w_IS h s.heap.size O S_w_IX E_w_IX S_w_IS E_w_IS S_w_X E_w_X S_w_X_REC_NOT_GAP E_w_X_REC_NOT_GAP S_w_X_GAP E_w_X_GAP S_w_S E_w_S S_w_S_REC_NOT_GAP E_w_S_REC_NOT_GAP S_w_S_GAP E_w_S_GAP S_w_X_INSERT_INTENTION E_w_X_INSERT_INTENTION S_w_AUTO_INC E_w_AUTO_INC (by decide) (by decide) rfl) E_w_S_GAP (fun h O => rm2_6 l s _ hw w_S_GAP w_IS h s.heap.size O (F_insertIntention_w_S_GAP.ext O.2) (F_insertIntention_w_IS.ext O.2) (Fld.ne F_ordinal_w_S_GAP F_ordinal_w_IS (by decide)) (F_keyLock_w_S_GAP.ext O.2) (F_keyLock_w_IS.ext O.2) (F_intention_w_S_GAP.ext O.2) (F_intention_w_IS.ext O.2)) (fun h O => rm3_0 l s _ hw (7 : Int32) (1 : Int32) (128 : Int32) h s.heap.size O (by decide) (by decide) rfl (by decide))
    · exact law_0 l s _ hw tables_1 p1 p2 (7 : Int32) (2 : Int32) w_S_GAP w_X (0 : Int32) s.heap s.heap.size (Old.start s) h1 h2 (fun h O => rm1_0 l s _ hw (7 : Int32) w_IX w_IS w_X w_X_REC_NOT_GAP w_X_GAP w_S w_S_REC_NOT_GAP w_S_GAP w_X_INSERT_INTENTION w_AUTO_INC w_S_GAP h s.heap.size O S_w_IX E_w_IX S_w_IS E_w_IS S_w_X E_w_X S_w_X_REC_NOT_GAP E_w_X_REC_NOT_GAP S_w_X_GAP E_w_X_GAP S_w_S E_w_S S_w_S_REC_NOT_GAP E_w_S_REC_NOT_GAP S_w_S_GAP E_w_S_GAP S_w_X_INSERT_INTENTION E_w_X_INSERT_INTENTION S_w_AUTO_INC E_w_AUTO_INC (by decide) (by decide) rfl) (fun h O => rm1_0 l s _ hw (2 : Int32) w_IX w_IS w_X w_X_REC_NOT_GAP w_X_GAP w_S w_S_REC_NOT_GAP w_S_GAP w_X_INSERT_INTENTION w_AUTO_INC w_X h s.heap.size O S_w_IX E_w_IX S_w_IS E_w_IS S_w_X E_w_X S_w_X_REC_NOT_GAP E_w_X_REC_NOT_GAP S_w_X_GAP E_w_X_GAP S_w_S E_w_S S_w_S_REC_NOT_GAP E_w_S_REC_NOT_GAP S_w_S_GAP E_w_S_GAP S_w_X_INSERT_INTENTION E_w_X_INSERT_INTENTION S_w_AUTO_INC E_w_AUTO_INC (by decide) (by decide) rfl) E_w_S_GAP (fun h O => rm2_12 l s _ hw w_S_GAP w_X h s.heap.size O (F_insertIntention_w_S_GAP.ext O.2) (F_insertIntention_w_X.ext O.2) (Fld.ne F_ordinal_w_S_GAP F_ordinal_w_X (by decide)) (F_keyLock_w_S_GAP.ext O.2) (F_keyLock_w_X.ext O.2) (F_intention_w_S_GAP.ext O.2) (F_intention_w_X.ext O.2) (F_shared_w_S_GAP.ext O.2) (F_shared_w_X.ext O.2)) (fun h O => rm3_0 l s _ hw (7 : Int32) (2 : Int32) (128 : Int32) h s.heap.size O (by decide) (by decide) rfl (by decide))
    · exact law_0 l s _ hw tables_1 p1 p2 (7 : Int32) (3 : Int32) w_S_GAP w_X_REC_NOT_GAP (0 : Int32) s.heap s.heap.size (Old.start s) h1 h2 (fun h O => rm1_0 l s _ hw (7 : Int32) w_IX w_IS w_X w_X_REC_NOT_GAP w_X_GAP w_S w_S_REC_NOT_GAP w_S_GAP w_X_INSERT_INTENTION w_AUTO_INC w_S_GAP h s.heap.size O S_w_IX E_w_IX S_w_IS E_w_IS S_w_X E_w_X S_w_X_REC_NOT_GAP E_w_X_REC_NOT_GAP S_w_X_GAP E_w_X_GAP S_w_S E_w_S S_w_S_REC_NOT_GAP E_w_S_REC_NOT_GAP S_w_S_GAP E_w_S_GAP S_w_X_INSERT_INTENTION E_w_X_INSERT_INTENTION S_w_AUTO_INC E_w_AUTO_INC (by decide) (by decide) rfl) (fun h O => rm1_0 l s _ hw (3 : Int32) w_IX w_IS w_X w_X_REC_NOT_GAP w_X_GAP w_S w_S_REC_NOT_GAP w_S_GAP w_X_INSERT_INTENTION w_AUTO_INC w_X_REC_NOT_GAP h s.heap.size O S_w_IX E_w_IX S_w_IS E_w_IS S_w_X E_w_X S_w_X_REC_NOT_GAP E_w_X_REC_NOT_GAP S_w_X_GAP E_w_X_GAP S_w_S E_w_S S_w_S_REC_NOT_GAP E_w_S_REC_NOT_GAP S_w_S_GAP E_w_S_GAP S_w_X_INSERT_INTENTION E_w_X_INSERT_INTENTION S_w_AUTO_INC E_w_AUTO_INC (by decide) (by decide) rfl) E_w_S_GAP (fun h O => rm2_12 l s _ hw w_S_GAP w_X_REC_NOT_GAP h s.heap.size O (F_insertIntention_w_S_GAP.ext O.2) (F_insertIntention_w_X_REC_NOT_GAP.ext O.2) (Fld.ne F_ordinal_w_S_GAP F_ordinal_w_X_REC_NOT_GAP (by decide)) (F_keyLock_w_S_GAP.ext O.2) (F_keyLock_w_X_REC_NOT_GAP.ext O.2) (F_intention_w_S_GAP.ext O.2) (F_intention_w_X_REC_NOT_GAP.ext O.2) (F_shared_w_S_GAP.ext O.2) (F_shared_w_X_REC_NOT_GAP.ext O.2)) (fun h O => rm3_0 l s _ hw (7 : Int32) (3 : Int32) (128 : Int32) h s.heap.size O (by decide) (by decide) rfl (by decide))
    · exact law_0 l s _ hw tables_1 p1 p2 (7 : Int32) (4 : Int32) w_S_GAP w_X_GAP (0 : Int32) s.heap s.heap.size (Old.start s) h1 h2 (fun h O => rm1_0 l s _ hw (7 : Int32) w_IX w_IS w_X w_X_REC_NOT_GAP w_X_GAP w_S w_S_REC_NOT_GAP w_S_GAP w_X_INSERT_INTENTION w_AUTO_INC w_S_GAP h s.heap.size O S_w_IX E_w_IX S_w_IS E_w_IS S_w_X E_w_X S_w_X_REC_NOT_GAP E_w_X_REC_NOT_GAP S_w_X_GAP E_w_X_GAP S_w_S E_w_S S_w_S_REC_NOT_GAP E_w_S_REC_NOT_GAP S_w_S_GAP E_w_S_GAP S_w_X_INSERT_INTENTION E_w_X_INSERT_INTENTION S_w_AUTO_INC E_w_AUTO_INC (by decide) (by decide) rfl) (fun h O => rm1_0 l s _ hw (4 : Int32) w_IX w_IS w_X w_X_REC_NOT_GAP w_X_GAP w_S w_S_REC_NOT_GAP w_S_GAP w_X_INSERT_INTENTION w_AUTO_INC w_X_GAP h s.heap.size O S_w_IX E_w_IX S_w_IS E_w_IS S_w_X E_w_X S_w_X_REC_NOT_GAP E_w_X_REC_NOT_GAP S_w_X_GAP E_w_X_GAP S_w_S E_w_S S_w_S_REC_NOT_GAP E_w_S_REC_NOT_GAP S_w_S_GAP E_w_S_GAP S_w_X_INSERT_INTENTION E_w_X_INSERT_INTENTION S_w_AUTO_INC E_w_AUTO_INC (by decide) (by decide) rfl) E_w_S_GAP (fun h O => rm2_12 l s _ hw w_S_GAP w_X_GAP h s.heap.size O (F_insertIntention_w_S_GAP.ext O.2) (F_insertIntention_w_X_GAP.ext O.2) (Fld.ne F_ordinal_w_S_GAP F_ordinal_w_X_GAP (by decide)) (F_keyLock_w_S_GAP.ext O.2) (F_keyLock_w_X_GAP.ext O.2) (F_intention_w_S_GAP.ext O.2) (F_intention_w_X_GAP.ext O.2) (F_shared_w_S_GAP.ext O.2) (F_shared_w_X_GAP.ext O.2)) (fun h O => rm3_0 l s _ hw (7 : Int32) (4 : Int32) (128 : Int32) h s.heap.size O (by decide) (by decide) rfl (by decide))
    · exact law_0 l s _ hw tables_1 p1 p2 (7 : Int32) (5 : Int32) w_S_GAP w_S (0 : Int32) s.heap s.heap.size (Old.start s) h1 h2 (fun h O => rm1_0 l s _ hw (7 : Int32) w_IX w_IS w_X w_X_REC_NOT_GAP w_X_GAP w_S w_S_REC_NOT_GAP w_S_GAP w_X_INSERT_INTENTION w_AUTO_INC w_S_GAP h s.heap.size O S_w_IX E_w_IX S_w_IS E_w_IS S_w_X E_w_X S_w_X_REC_NOT_GAP E_w_X_REC_NOT_GAP S_w_X_GAP E_w_X_GAP S_w_S E_w_S S_w_S_REC_NOT_GAP E_w_S_REC_NOT_GAP S_w_S_GAP E_w_S_GAP S_w_X_INSERT_INTENTION E_w_X_INSERT_INTENTION S_w_AUTO_INC E_w_AUTO_INC (by decide) (by decide) rfl) (fun h O => rm1_0 l s _ hw (5 : Int32) w_IX w_IS w_X w_X_REC_NOT_GAP w_X_GAP w_S w_S_REC_NOT_GAP w_S_GAP w_X_INSERT_INTENTION w_AUTO_INC w_S h s.heap.size O S_w_IX E_w_IX S_w_IS E_w_IS S_w_X E_w_X S_w_X_REC_NOT_GAP E_w_X_REC_NOT_GAP S_w_X_GAP E_w_X_GAP S_w_S E_w_S S_w_S_REC_NOT_GAP E_w_S_REC_NOT_GAP S_w_S_GAP E_w_S_GAP S_w_X_INSERT_INTENTION E_w_X_INSERT_INTENTION S_w_AUTO_INC E_w_AUTO_INC (by decide) (by decide) rfl) E_w_S_GAP (fun h O => rm2_15 l s _ hw w_S_GAP w_S h s.heap.size O (F_insertIntention_w_S_GAP.ext O.2) (F_insertIntention_w_S.ext O.2) (Fld.ne F_ordinal_w_S_GAP F_ordinal_w_S (by decide)) (F_keyLock_w_S_GAP.ext O.2) (F_keyLock_w_S.ext O.2) (F_intention_w_S_GAP.ext O.2) (F_intention_w_S.ext O.2) (F_shared_w_S_GAP.ext O.2) (F_shared_w_S.ext O.2) (F_coversTarget_w_S_GAP.ext O.2) (F_coversTarget_w_S.ext O.2)) (fun h O => rm3_0 l s _ hw (7 : Int32) (5 : Int32) (128 : Int32) h s.heap.size O (by decide) (by decide) rfl (by decide))
    · exact law_0 l s _ hw tables_1 p1 p2 (7 : Int32) (6 : Int32) w_S_GAP w_S_REC_NOT_GAP (0 : Int32) s.heap s.heap.size (Old.start s) h1 h2 (fun h O => rm1_0 l s _ hw (7 : Int32) w_IX w_IS w_X w_X_REC_NOT_GAP w_X_GAP w_S w_S_REC_NOT_GAP w_S_GAP w_X_INSERT_INTENTION w_AUTO_INC w_S_GAP h s.heap.size O S_w_IX E_w_IX S_w_IS E_w_IS S_w_X E_w_X S_w_X_REC_NOT_GAP E_w_X_REC_NOT_GAP S_w_X_GAP E_w_X_GAP S_w_S E_w_S S_w_S_REC_NOT_GAP E_w_S_REC_NOT_GAP S_w_S_GAP E_w_S_GAP S_w_X_INSERT_INTENTION E_w_X_INSERT_INTENTION S_w_AUTO_INC E_w_AUTO_INC (by decide) (by decide) rfl) (fun h O => rm1_0 l s _ hw (6 : Int32) w_IX w_IS w_X w_X_REC_NOT_GAP w_X_GAP w_S w_S_REC_NOT_GAP w_S_GAP w_X_INSERT_INTENTION w_AUTO_INC w_S_REC_NOT_GAP h s.heap.size O S_w_IX E_w_IX S_w_IS E_w_IS S_w_X E_w_X S_w_X_REC_NOT_GAP E_w_X_REC_NOT_GAP S_w_X_GAP E_w_X_GAP S_w_S E_w_S S_w_S_REC_NOT_GAP E_w_S_REC_NOT_GAP S_w_S_GAP E_w_S_GAP S_w_X_INSERT_INTENTION E_w_X_INSERT_INTENTION S_w_AUTO_INC E_w_AUTO_INC (by decide) (by decide) rfl) E_w_S_GAP (fun h O => rm2_15 l s _ hw w_S_GAP w_S_REC_NOT_GAP h s.heap.size O (F_insertIntention_w_S_GAP.ext O.2) (F_insertIntention_w_S_REC_NOT_GAP.ext O.2) (Fld.ne F_ordinal_w_S_GAP F_ordinal_w_S_REC_NOT_GAP (by decide)) (F_keyLock_w_S_GAP.ext O.2) (F_keyLock_w_S_REC_NOT_GAP.ext O.2) (F_intention_w_S_GAP.ext O.2) (F_intention_w_S_REC_NOT_GAP.ext O.2) (F_shared_w_S_GAP.ext O.2) (F_shared_w_S_REC_NOT_GAP.ext O.2) (F_coversTarget_w_S_GAP.ext O.2) (F_coversTarget_w_S_REC_NOT_GAP.ext O.2)) (fun h O => rm3_0 l s _ hw (7 : Int32) (6 : Int32) (128 : Int32) h s.heap.size O (by decide) (by decide) rfl (by decide))
    · exact law_0 l s _ hw tables_1 p1 p2 (7 : Int32) (7 : Int32) w_S_GAP w_S_GAP (1 : Int32) s.heap s.heap.size (Old.start s) h1 h2 (fun h O => rm1_0 l s _ hw (7 : Int32) w_IX w_IS w_X w_X_REC_NOT_GAP w_X_GAP w_S w_S_REC_NOT_GAP w_S_GAP w_X_INSERT_INTENTION w_AUTO_INC w_S_GAP h s.heap.size O S_w_IX E_w_IX S_w_IS E_w_IS S_w_X E_w_X S_w_X_REC_NOT_GAP E_w_X_REC_NOT_GAP S_w_X_GAP E_w_X_GAP S_w_S E_w_S S_w_S_REC_NOT_GAP E_w_S_REC_NOT_GAP S_w_S_GAP E_w_S_GAP S_w_X_INSERT_INTENTION E_w_X_INSERT_INTENTION S_w_AUTO_INC E_w_AUTO_INC (by decide) (by decide) rfl) (fun h O => rm1_0 l s _ hw (7 : Int32) w_IX w_IS w_X w_X_REC_NOT_GAP w_X_GAP w_S w_S_REC_NOT_GAP w_S_GAP w_X_INSERT_INTENTION w_AUTO_INC w_S_GAP h s.heap.size O S_w_IX E_w_IX S_w_IS E_w_IS S_w_X E_w_X S_w_X_REC_NOT_GAP E_w_X_REC_NOT_GAP S_w_X_GAP E_w_X_GAP S_w_S E_w_S S_w_S_REC_NOT_GAP E_w_S_REC_NOT_GAP S_w_S_GAP E_w_S_GAP S_w_X_INSERT_INTENTION E_w_X_INSERT_INTENTION S_w_AUTO_INC E_w_AUTO_INC (by decide) (by decide) rfl) E_w_S_GAP (fun h O => rm2_0 l s _ hw w_S_GAP h s.heap.size O (F_insertIntention_w_S_GAP.ext O.2)) (fun h O => rm3_1 l s _ hw (7 : Int32) (7 : Int32) (128 : Int32) h s.heap.size O (by decide) (by decide) rfl (by decide))
    · exact law_0 l s _ hw tables_1 p1 p2 (7 : Int32) (8 : Int32) w_S_GAP w_X_INSERT_INTENTION (0 : Int32) s.heap s.heap.size (Old.start s) h1 h2 (fun h O => rm1_0 l s _ hw (7 : Int32) w_IX w_IS w_X w_X_REC_NOT_GAP w_X_GAP w_S w_S_REC_NOT_GAP w_S_GAP w_X_INSERT_INTENTION w_AUTO_INC w_S_GAP h s.heap.size O S_w_IX E_w_IX S_w_IS E_w_IS S_w_X E_w_X S_w_X_REC_NOT_GAP E_w_X_REC_NOT_GAP S_w_X_GAP E_w_X_GAP S_w_S E_w_S S_w_S_REC_NOT_GAP E_w_S_REC_NOT_GAP S_w_S_GAP E_w_S_GAP S_w_X_INSERT_INTENTION E_w_X_INSERT_INTENTION S_w_AUTO_INC E_w_AUTO_INC (by decide) (by decide) rfl) (fun h O => rm1_0 l s _ hw (8 : Int32) w_IX w_IS w_X w_X_REC_NOT_GAP w_X_GAP w_S w_S_REC_NOT_GAP w_S_GAP w_X_INSERT_INTENTION w_AUTO_INC w_X_INSERT_INTENTION h s.heap.size O S_w_IX E_w_IX S_w_IS E_w_IS S_w_X E_w_X S_w_X_REC_NOT_GAP E_w_X_REC_NOT_GAP S_w_X_GAP E_w_X_GAP S_w_S E_w_S S_w_S_REC_NOT_GAP E_w_S_REC_NOT_GAP S_w_S_GAP E_w_S_GAP S_w_X_INSERT_INTENTION E_w_X_INSERT_INTENTION S_w_AUTO_INC E_w_AUTO_INC (by decide) (by decide) rfl) E_w_S_GAP (fun h O => rm2_3 l s _ hw w_S_GAP w_X_INSERT_INTENTION h s.heap.size O (F_insertIntention_w_S_GAP.ext O.2) (F_insertIntention_w_X_INSERT_INTENTION.ext O.2)) (fun h O => rm3_0 l s _ hw (7 : Int32) (8 : Int32) (128 : Int32) h s.heap.size O (by decide) (by decide) rfl (by decide))
    · exact law_0 l s _ hw tables_1 p1 p2 (7 : Int32) (9 : Int32) w_S_GAP w_AUTO_INC (0 : Int32) s.heap s.heap.size (Old.start s) h1 h2 (fun h O => rm1_0 l s _ hw (7 : Int32) w_IX w_IS w_X w_X_REC_NOT_GAP w_X_GAP w_S w_S_REC_NOT_GAP w_S_GAP w_X_INSERT_INTENTION w_AUTO_INC w_S_GAP h s.heap.size O S_w_IX E_w_IX S_w_IS E_w_IS S_w_X E_w_X S_w_X_REC_NOT_GAP E_w_X_REC_NOT_GAP S_w_X_GAP E_w_X_GAP S_w_S E_w_S S_w_S_REC_NOT_GAP E_w_S_REC_NOT_GAP S_w_S_GAP E_w_S_GAP S_w_X_INSERT_INTENTION E_w_X_INSERT_INTENTION S_w_AUTO_INC E_w_AUTO_INC (by decide) (by decide) rfl) (fun h O => rm1_0 l s _ hw (9 : Int32) w_IX w_IS w_X w_X_REC_NOT_GAP w_X_GAP w_S w_S_REC_NOT_GAP w_S_GAP w_X_INSERT_INTENTION w_AUTO_INC w_AUTO_INC h s.heap.size O S_w_IX E_w_IX S_w_IS E_w_IS S_w_X E_w_X S_w_X_REC_NOT_GAP E_w_X_REC_NOT_GAP S_w_X_GAP E_w_X_GAP S_w_S E_w_S S_w_S_REC_NOT_GAP E_w_S_REC_NOT_GAP S_w_S_GAP E_w_S_GAP S_w_X_INSERT_INTENTION E_w_X_INSERT_INTENTION S_w_AUTO_INC E_w_AUTO_INC (by decide) (by decide) rfl) E_w_S_GAP (fun h O => rm2_4 l s _ hw w_S_GAP w_AUTO_INC h s.heap.size O (F_insertIntention_w_S_GAP.ext O.2) (F_insertIntention_w_AUTO_INC.ext O.2) (Fld.ne F_ordinal_w_S_GAP F_ordinal_w_AUTO_INC (by decide)) (F_keyLock_w_S_GAP.ext O.2) (F_keyLock_w_AUTO_INC.ext O.2)) (fun h O => rm3_0 l s _ hw (7 : Int32) (9 : Int32) (128 : Int32) h s.heap.size O (by decide) (by decide) rfl (by decide))
    · exact law_0 l s _ hw tables_1 p1 p2 (8 : Int32) (0 : Int32) w_X_INSERT_INTENTION w_IX (0 : Int32) s.heap s.heap.size (Old.start s) h1 h2 (fun h O => rm1_0 l s _ hw (8 : Int32) w_IX w_IS w_X w_X_REC_NOT_GAP w_X_GAP w_S w_S_REC_NOT_GAP w_S_GAP w_X_INSERT_INTENTION w_AUTO_INC w_X_INSERT_INTENTION h s.heap.size O S_w_IX E_w_IX S_w_IS E_w_IS S_w_X E_w_X S_w_X_REC_NOT_GAP E_w_X_REC_NOT_GAP S_w_X_GAP E_w_X_GAP S_w_S E_w_S S_w_S_REC_NOT_GAP E_w_S_REC_NOT_GAP S_w_S_GAP E_w_S_GAP S_w_X_INSERT_INTENTION E_w_X_INSERT_INTENTION S_w_AUTO_INC E_w_AUTO_INC (by decide) (by decide) rfl) (fun h O => rm1_0 l s _ hw (0 : Int32) w_IX w_IS w_X w_X_REC_NOT_GAP w_X_GAP w_S w_S_REC_NOT_GAP w_S_GAP w_X_INSERT_INTENTION w_AUTO_INC w_IX h s.heap.size O S_w_IX E_w_IX S_w_IS E_w_IS S_w_X E_w_X S_w_X_REC_NOT_GAP E_w_X_REC_NOT_GAP S_w_X_GAP E_w_X_GAP S_w_S E_w_S S_w_S_REC_NOT_GAP E_w_S_REC_NOT_GAP S_w_S_GAP E_w_S_GAP S_w_X_INSERT_INTENTION E_w_X_INSERT_INTENTION S_w_AUTO_INC E_w_AUTO_INC (by decide) (by decide) rfl) E_w_X_INSERT_INTENTION (fun h O => rm2_16 l s _ hw w_X_INSERT_INTENTION w_IX h s.heap.size O (F_insertIntention_w_X_INSERT_INTENTION.ext O.2)) (fun h O => rm3_0 l s _ hw (8 : Int32) (0 : Int32) (0 : Int32) h s.heap.size O (by decide) (by decide) rfl (by decide))
    · exact law_0 l s _ hw tables_1 p1 p2 (8 : Int32) (1 : Int32) w_X_INSERT_INTENTION w_IS (0 : Int32) s.heap s.heap.size (Old.start s) h1 h2 (fun h O => rm1_0 l s _ hw (8 : Int32) w_IX w_IS w_X w_X_REC_NOT_GAP w_X_GAP w_S w_S_REC_NOT_GAP w_S_GAP w_X_INSERT_INTENTION w_AUTO_INC w_X_INSERT_INTENTION h s.heap.size O S_w_IX E_w_IX S_w_IS E_w_IS S_w_X E_w_X S_w_X_REC_NOT_GAP E_w_X_REC_NOT_GAP S_w_X_GAP E_w_X_GAP S_w_S E_w_S S_w_S_REC_NOT_GAP E_w_S_REC_NOT_GAP S_w_S_GAP E_w_S_GAP S_w_X_INSERT_INTENTION E_w_X_INSERT_INTENTION S_w_AUTO_INC E_w_AUTO_INC (by decide) (by decide) rfl) (fun h O => rm1_0 l s _ hw (1 : Int32) w_IX w_IS w_X w_X_REC_NOT_GAP w_X_GAP w_S w_S_REC_NOT_GAP w_S_GAP w_X_INSERT_INTENTION w_AUTO_INC w_IS h s.heap.size O S_w_IX E_w_IX S_w_IS E_w_IS S_w_X E_w_X S_w_X_REC_NOT_GAP E_w_X_REC_NOT_GAP S_w_X_GAP E_w_X_GAP S_w_S E_w_S S_w_S_REC_NOT_GAP E_w_S_REC_NOT_GAP S_w_S_GAP E_w_S_GAP S_w_X_INSERT_INTENTION E_w_X_INSERT_INTENTION S_w_AUTO_INC E_w_AUTO_INC (by decide) (by decide) rfl) E_w_X_INSERT_INTENTION (fun h O => rm2_16 l s _ hw w_X_INSERT_INTENTION w_IS h s.heap.size O (F_insertIntention_w_X_INSERT_INTENTION.ext O.2)) (fun h O => rm3_0 l s _ hw (8 : Int32) (1 : Int32) (0 : Int32) h s.heap.size O (by decide) (by decide) rfl (by decide))
    · exact law_0 l s _ hw tables_1 p1 p2 (8 : Int32) (2 : Int32) w_X_INSERT_INTENTION w_X (0 : Int32) s.heap s.heap.size (Old.start s) h1 h2 (fun h O => rm1_0 l s _ hw (8 : Int32) w_IX w_IS w_X w_X_REC_NOT_GAP w_X_GAP w_S w_S_REC_NOT_GAP w_S_GAP w_X_INSERT_INTENTION w_AUTO_INC w_X_INSERT_INTENTION h s.heap.size O S_w_IX E_w_IX S_w_IS E_w_IS S_w_X E_w_X S_w_X_REC_NOT_GAP E_w_X_REC_NOT_GAP S_w_X_GAP E_w_X_GAP S_w_S E_w_S S_w_S_REC_NOT_GAP E_w_S_REC_NOT_GAP S_w_S_GAP E_w_S_GAP S_w_X_INSERT_INTENTION E_w_X_INSERT_INTENTION S_w_AUTO_INC E_w_AUTO_INC (by decide) (by decide) rfl) (fun h O => rm1_0 l s _ hw (2 : Int32) w_IX w_IS w_X w_X_REC_NOT_GAP w_X_GAP w_S w_S_REC_NOT_GAP w_S_GAP w_X_INSERT_INTENTION w_AUTO_INC w_X h s.heap.size O S_w_IX E_w_IX S_w_IS E_w_IS S_w_X E_w_X S_w_X_REC_NOT_GAP E_w_X_REC_NOT_GAP S_w_X_GAP E_w_X_GAP S_w_S E_w_S S_w_S_REC_NOT_GAP E_w_S_REC_NOT_GAP S_w_S_GAP E_w_S_GAP S_w_X_INSERT_INTENTION E_w_X_INSERT_INTENTION S_w_AUTO_INC E_w_AUTO_INC (by decide) (by decide) rfl) E_w_X_INSERT_INTENTION (fun h O => rm2_16 l s _ hw w_X_INSERT_INTENTION w_X h s.heap.size O (F_insertIntention_w_X_INSERT_INTENTION.ext O.2)) (fun h O => rm3_0 l s _ hw (8 : Int32) (2 : Int32) (0 : Int32) h s.heap.size O (by decide) (by decide) rfl (by decide))
    · exact law_0 l s _ hw tables_1 p1 p2 (8 : Int32) (3 : Int32) w_X_INSERT_INTENTION w_X_REC_NOT_GAP (0 : Int32) s.heap s.heap.size (Old.start s) h1 h2 (fun h O => rm1_0 l s _ hw (8 : Int32) w_IX w_IS w_X w_X_REC_NOT_GAP w_X_GAP w_S w_S_REC_NOT_GAP w_S_GAP w_X_INSERT_INTENTION w_AUTO_INC w_X_INSERT_INTENTION h s.heap.size O S_w_IX E_w_IX S_w_IS E_w_IS S_w_X E_w_X S_w_X_REC_NOT_GAP E_w_X_REC_NOT_GAP S_w_X_GAP E_w_X_GAP S_w_S E_w_S S_w_S_REC_NOT_GAP E_w_S_REC_NOT_GAP S_w_S_GAP E_w_S_GAP S_w_X_INSERT_INTENTION E_w_X_INSERT_INTENTION S_w_AUTO_INC E_w_AUTO_INC (by decide) (by decide) rfl) (fun h O => rm1_0 l s _ hw (3 : Int32) w_IX w_IS w_X w_X_REC_NOT_GAP w_X_GAP w_S w_S_REC_NOT_GAP w_S_GAP w_X_INSERT_INTENTION w_AUTO_INC w_X_REC_NOT_GAP h s.heap.size O S_w_IX E_w_IX S_w_IS E_w_IS S_w_X E_w_X S_w_X_REC_NOT_GAP E_w_X_REC_NOT_GAP S_w_X_GAP E_w_X_GAP S_w_S E_w_S S_w_S_REC_NOT_GAP E_w_S_REC_NOT_GAP S_w_S_GAP E_w_S_GAP S_w_X_INSERT_INTENTION E_w_X_INSERT_INTENTION S_w_AUTO_INC E_w_AUTO_INC (by decide) (by decide) rfl) E_w_X_INSERT_INTENTION (fun h O => rm2_16 l s _ hw w_X_INSERT_INTENTION w_X_REC_NOT_GAP h s.heap.size O (F_insertIntention_w_X_INSERT_INTENTION.ext O.2)) (fun h O => rm3_0 l s _ hw (8 : Int32) (3 : Int32) (0 : Int32) h s.heap.size O (by decide) (by decide) rfl (by decide))
    · exact law_0 l s _ hw tables_1 p1 p2 (8 : Int32) (4 : Int32) w_X_INSERT_INTENTION w_X_GAP (0 : Int32) s.heap s.heap.size (Old.start s) h1 h2 (fun h O => rm1_0 l s _ hw (8 : Int32) w_IX w_IS w_X w_X_REC_NOT_GAP w_X_GAP w_S w_S_REC_NOT_GAP w_S_GAP w_X_INSERT_INTENTION w_AUTO_INC w_X_INSERT_INTENTION h s.heap.size O S_w_IX E_w_IX S_w_IS E_w_IS S_w_X E_w_X S_w_X_REC_NOT_GAP E_w_X_REC_NOT_GAP S_w_X_GAP E_w_X_GAP S_w_S E_w_S S_w_S_REC_NOT_GAP E_w_S_REC_NOT_GAP S_w_S_GAP E_w_S_GAP S_w_X_INSERT_INTENTION E_w_X_INSERT_INTENTION S_w_AUTO_INC E_w_AUTO_INC (by decide) (by decide) rfl) (fun h O => rm1_0 l s _ hw (4 : Int32) w_IX w_IS w_X w_X_REC_NOT_GAP w_X_GAP w_S w_S_REC_NOT_GAP w_S_GAP w_X_INSERT_INTENTION w_AUTO_INC w_X_GAP h s.heap.size O S_w_IX E_w_IX S_w_IS E_w_IS S_w_X E_w_X S_w_X_REC_NOT_GAP E_w_X_REC_NOT_GAP S_w_X_GAP E_w_X_GAP S_w_S E_w_S S_w_S_REC_NOT_GAP E_w_S_REC_NOT_GAP S_w_S_GAP E_w_S_GAP S_w_X_INSERT_INTENTION E_w_X_INSERT_INTENTION S_w_AUTO_INC E_w_AUTO_INC (by decide) (by decide) rfl) E_w_X_INSERT_INTENTION (fun h O => rm2_16 l s _ hw w_X_INSERT_INTENTION w_X_GAP h s.heap.size O (F_insertIntention_w_X_INSERT_INTENTION.ext O.2)) (fun h O => rm3_0 l s _ hw (8 : Int32) (4 : Int32) (0 : Int32) h s.heap.size O (by decide) (by decide) rfl (by decide))
    · exact law_0 l s _ hw tables_1 p1 p2 (8 : Int32) (5 : Int32) w_X_INSERT_INTENTION w_S (0 : Int32) s.heap s.heap.size (Old.start s) h1 h2 (fun h O => rm1_0 l s _ hw (8 : Int32) w_IX w_IS w_X w_X_REC_NOT_GAP w_X_GAP w_S w_S_REC_NOT_GAP w_S_GAP w_X_INSERT_INTENTION w_AUTO_INC w_X_INSERT_INTENTION h s.heap.size O S_w_IX E_w_IX S_w_IS E_w_IS S_w_X E_w_X S_w_X_REC_NOT_GAP E_w_X_REC_NOT_GAP S_w_X_GAP E_w_X_GAP S_w_S E_w_S S_w_S_REC_NOT_GAP E_w_S_REC_NOT_GAP S_w_S_GAP E_w_S_GAP S_w_X_INSERT_INTENTION E_w_X_INSERT_INTENTION S_w_AUTO_INC E_w_AUTO_INC (by decide) (by decide) rfl) (fun h O => rm1_0 l s _ hw (5 : Int32) w_IX w_IS w_X w_X_REC_NOT_GAP w_X_GAP w_S w_S_REC_NOT_GAP w_S_GAP w_X_INSERT_INTENTION w_AUTO_INC w_S h s.heap.size O S_w_IX E_w_IX S_w_IS E_w_IS S_w_X E_w_X S_w_X_REC_NOT_GAP E_w_X_REC_NOT_GAP S_w_X_GAP E_w_X_GAP S_w_S E_w_S S_w_S_REC_NOT_GAP E_w_S_REC_NOT_GAP S_w_S_GAP E_w_S_GAP S_w_X_INSERT_INTENTION E_w_X_INSERT_INTENTION S_w_AUTO_INC E_w_AUTO_INC (by decide) (by decide) rfl) E_w_X_INSERT_INTENTION (fun h O => rm2_16 l s _ hw w_X_INSERT_INTENTION w_S h s.heap.size O (F_insertIntention_w_X_INSERT_INTENTION.ext O.2)) (fun h O => rm3_0 l s _ hw (8 : Int32) (5 : Int32) (0 : Int32) h s.heap.size O (by decide) (by decide) rfl (by decide))
    · exact law_0 l s _ hw tables_1 p1 p2 (8 : Int32) (6 : Int32) w_X_INSERT_INTENTION w_S_REC_NOT_GAP (0 : Int32) s.heap s.heap.size (Old.start s) h1 h2 (fun h O => rm1_0 l s _ hw (8 : Int32) w_IX w_IS w_X w_X_REC_NOT_GAP w_X_GAP w_S w_S_REC_NOT_GAP w_S_GAP w_X_INSERT_INTENTION w_AUTO_INC w_X_INSERT_INTENTION h s.heap.size O S_w_IX E_w_IX S_w_IS E_w_IS S_w_X E_w_X S_w_X_REC_NOT_GAP E_w_X_REC_NOT_GAP S_w_X_GAP E_w_X_GAP S_w_S E_w_S S_w_S_REC_NOT_GAP E_w_S_REC_NOT_GAP S_w_S_GAP E_w_S_GAP S_w_X_INSERT_INTENTION E_w_X_INSERT_INTENTION S_w_AUTO_INC E_w_AUTO_INC (by decide) (by decide) rfl) (fun h O => rm1_0 l s _ hw (6 : Int32) w_IX w_IS w_X w_X_REC_NOT_GAP w_X_GAP w_S w_S_REC_NOT_GAP w_S_GAP w_X_INSERT_INTENTION w_AUTO_INC w_S_REC_NOT_GAP h s.heap.size O S_w_IX E_w_IX S_w_IS E_w_IS S_w_X E_w_X S_w_X_REC_NOT_GAP E_w_X_REC_NOT_GAP S_w_X_GAP E_w_X_GAP S_w_S E_w_S S_w_S_REC_NOT_GAP E_w_S_REC_NOT_GAP S_w_S_GAP E_w_S_GAP S_w_X_INSERT_INTENTION E_w_X_INSERT_INTENTION S_w_AUTO_INC E_w_AUTO_INC (by decide) (by decide) rfl) E_w_X_INSERT_INTENTION (fun h O => rm2_16 l s _ hw w_X_INSERT_INTENTION w_S_REC_NOT_GAP h s.heap.size O (F_insertIntention_w_X_INSERT_INTENTION.ext O.2)) (fun h O => rm3_0 l s _ hw (8 : Int32) (6 : Int32) (0 : Int32) h s.heap.size O (by decide) (by decide) rfl (by decide))
    · exact law_0 l s _ hw tables_1 p1 p2 (8 : Int32) (7 : Int32) w_X_INSERT_INTENTION w_S_GAP (0 : Int32) s.heap s.heap.size (Old.start s) h1 h2 (fun h O => rm1_0 l s _ hw (8 : Int32) w_IX w_IS w_X w_X_REC_NOT_GAP w_X_GAP w_S w_S_REC_NOT_GAP w_S_GAP w_X_INSERT_INTENTION w_AUTO_INC w_X_INSERT_INTENTION h s.heap.size O S_w_IX E_w_IX S_w_IS E_w_IS S_w_X E_w_X S_w_X_REC_NOT_GAP E_w_X_REC_NOT_GAP S_w_X_GAP E_w_X_GAP S_w_S E_w_S S_w_S_REC_NOT_GAP E_w_S_REC_NOT_GAP S_w_S_GAP E_w_S_GAP S_w_X_INSERT_INTENTION E_w_X_INSERT_INTENTION S_w_AUTO_INC E_w_AUTO_INC (by decide) (by decide) rfl) (fun h O => rm1_0 l s _ hw (7 : Int32) w_IX w_IS w_X w_X_REC_NOT_GAP w_X_GAP w_S w_S_REC_NOT_GAP w_S_GAP w_X_INSERT_INTENTION w_AUTO_INC w_S_GAP h s.heap.size O S_w_IX E_w_IX S_w_IS E_w_IS S_w_X E_w_X S_w_X_REC_NOT_GAP E_w_X_REC_NOT_GAP S_w_X_GAP E_w_X_GAP S_w_S E_w_S S_w_S_REC_NOT_GAP E_w_S_REC_NOT_GAP S_w_S_GAP E_w_S_GAP S_w_X_INSERT_INTENTION E_w_X_INSERT_INTENTION S_w_AUTO_INC E_w_AUTO_INC (by decide) (by decide) rfl) E_w_X_INSERT_INTENTION (fun h O => rm2_16 l s _ hw w_X_INSERT_INTENTION w_S_GAP h s.heap.size O (F_insertIntention_w_X_INSERT_INTENTION.ext O.2)) (fun h O => rm3_0 l s _ hw (8 : Int32) (7 : Int32) (0 : Int32) h s.heap.size O (by decide) (by decide) rfl (by decide))
    · exact law_0 l s _ hw tables_1 p1 p2 (8 : Int32) (8 : Int32) w_X_INSERT_INTENTION w_X_INSERT_INTENTION (0 : Int32) s.heap s.heap.size (Old.start s) h1 h2 (fun h O => rm1_0 l s _ hw (8 : Int32) w_IX w_IS w_X w_X_REC_NOT_GAP w_X_GAP w_S w_S_REC_NOT_GAP w_S_GAP w_X_INSERT_INTENTION w_AUTO_INC w_X_INSERT_INTENTION h s.heap.size O S_w_IX E_w_IX S_w_IS E_w_IS S_w_X E_w_X S_w_X_REC_NOT_GAP E_w_X_REC_NOT_GAP S_w_X_GAP E_w_X_GAP S_w_S E_w_S S_w_S_REC_NOT_GAP E_w_S_REC_NOT_GAP S_w_S_GAP E_w_S_GAP S_w_X_INSERT_INTENTION E_w_X_INSERT_INTENTION S_w_AUTO_INC E_w_AUTO_INC (by decide) (by decide) rfl) (fun h O => rm1_0 l s _ hw (8 : Int32) w_IX w_IS w_X w_X_REC_NOT_GAP w_X_GAP w_S w_S_REC_NOT_GAP w_S_GAP w_X_INSERT_INTENTION w_AUTO_INC w_X_INSERT_INTENTION h s.heap.size O S_w_IX E_w_IX S_w_IS E_w_IS S_w_X E_w_X S_w_X_REC_NOT_GAP E_w_X_REC_NOT_GAP S_w_X_GAP E_w_X_GAP S_w_S E_w_S S_w_S_REC_NOT_GAP E_w_S_REC_NOT_GAP S_w_S_GAP E_w_S_GAP S_w_X_INSERT_INTENTION E_w_X_INSERT_INTENTION S_w_AUTO_INC E_w_AUTO_INC (by decide) (by decide) rfl) E_w_X_INSERT_INTENTION (fun h O => rm2_17 l s _ hw w_X_INSERT_INTENTION h s.heap.size O (F_insertIntention_w_X_INSERT_INTENTION.ext O.2)) (fun h O => rm3_0 l s _ hw (8 : Int32) (8 : Int32) (0 : Int32) h s.heap.size O (by decide) (by decide) rfl (by decide))
    · exact law_0 l s _ hw tables_1 p1 p2 (8 : Int32) (9 : Int32) w_X_INSERT_INTENTION w_AUTO_INC (0 : Int32) s.heap s.heap.size (Old.start s) h1 h2 (fun h O => rm1_0 l s _ hw (8 : Int32) w_IX w_IS w_X w_X_REC_NOT_GAP w_X_GAP w_S w_S_REC_NOT_GAP w_S_GAP w_X_INSERT_INTENTION w_AUTO_INC w_X_INSERT_INTENTION h s.heap.size O S_w_IX E_w_IX S_w_IS E_w_IS S_w_X E_w_X S_w_X_REC_NOT_GAP E_w_X_REC_NOT_GAP S_w_X_GAP E_w_X_GAP S_w_S E_w_S S_w_S_REC_NOT_GAP E_w_S_REC_NOT_GAP S_w_S_GAP E_w_S_GAP S_w_X_INSERT_INTENTION E_w_X_INSERT_INTENTION S_w_AUTO_INC E_w_AUTO_INC (by decide) (by decide) rfl) (fun h O => rm1_0 l s _ hw (9 : Int32) w_IX w_IS w_X w_X_REC_NOT_GAP w_X_GAP w_S w_S_REC_NOT_GAP w_S_GAP w_X_INSERT_INTENTION w_AUTO_INC w_AUTO_INC h s.heap.size O S_w_IX E_w_IX S_w_IS E_w_IS S_w_X E_w_X S_w_X_REC_NOT_GAP E_w_X_REC_NOT_GAP S_w_X_GAP E_w_X_GAP S_w_S E_w_S S_w_S_REC_NOT_GAP E_w_S_REC_NOT_GAP S_w_S_GAP E_w_S_GAP S_w_X_INSERT_INTENTION E_w_X_INSERT_INTENTION S_w_AUTO_INC E_w_AUTO_INC (by decide) (by decide) rfl) E_w_X_INSERT_INTENTION (fun h O => rm2_16 l s _ hw w_X_INSERT_INTENTION w_AUTO_INC h s.heap.size O (F_insertIntention_w_X_INSERT_INTENTION.ext O.2)) (fun h O => rm3_0 l s _ hw (8 : Int32) (9 : Int32) (0 : Int32) h s.heap.size O (by decide) (by decide) rfl (by decide))
    · exact law_0 l s _ hw tables_1 p1 p2 (9 : Int32) (0 : Int32) w_AUTO_INC w_IX (0 : Int32) s.heap s.heap.size (Old.start s) h1 h2 (fun h O => rm1_0 l s _ hw (9 : Int32) w_IX w_IS w_X w_X_REC_NOT_GAP w_X_GAP w_S w_S_REC_NOT_GAP w_S_GAP w_X_INSERT_INTENTION w_AUTO_INC w_AUTO_INC h s.heap.size O S_w_IX E_w_IX S_w_IS E_w_IS S_w_X E_w_X S_w_X_REC_NOT_GAP E_w_X_REC_NOT_GAP S_w_X_GAP E_w_X_GAP S_w_S E_w_S S_w_S_REC_NOT_GAP E_w_S_REC_NOT_GAP S_w_S_GAP E_w_S_GAP S_w_X_INSERT_INTENTION E_w_X_INSERT_INTENTION S_w_AUTO_INC E_w_AUTO_INC (by decide) (by decide) rfl) (fun h O => rm1_0 l s _ hw (0 : Int32) w_IX w_IS w_X w_X_REC_NOT_GAP w_X_GAP w_S w_S_REC_NOT_GAP w_S_GAP w_X_INSERT_INTENTION w_AUTO_INC w_IX h s.heap.size O S_w_IX E_w_IX S_w_IS E_w_IS S_w_X E_w_X S_w_X_REC_NOT_GAP E_w_X_REC_NOT_GAP S_w_X_GAP E_w_X_GAP S_w_S E_w_S S_w_S_REC_NOT_GAP E_w_S_REC_NOT_GAP S_w_S_GAP E_w_S_GAP S_w_X_INSERT_INTENTION E_w_X_INSERT_INTENTION S_w_AUTO_INC E_w_AUTO_INC (by decide) (by decide) rfl) E_w_AUTO_INC (fun h O => rm2_18 l s _ hw w_AUTO_INC w_IX h s.heap.size O (F_insertIntention_w_AUTO_INC.ext O.2) (F_insertIntention_w_IX.ext O.2) (Fld.ne F_ordinal_w_AUTO_INC F_ordinal_w_IX (by decide)) (F_keyLock_w_AUTO_INC.ext O.2)) (fun h O => rm3_0 l s _ hw (9 : Int32) (0 : Int32) (512 : Int32) h s.heap.size O (by decide) (by decide) rfl (by decide))
    · exact law_0 l s _ hw tables_1 p1 p2 (9 : Int32) (1 : Int32) w_AUTO_INC w_IS (0 : Int32) s.heap s.heap.size (Old.start s) h1 h2 (fun h O => rm1_0 l s _ hw (9 : Int32) w_IX w_IS w_X w_X_REC_NOT_GAP w_X_GAP w_S w_S_REC_NOT_GAP w_S_GAP w_X_INSERT_INTENTION w_AUTO_INC w_AUTO_INC h s.heap.size O S_w_IX E_w_IX S_w_IS E_w_IS S_w_X E_w_X S_w_X_REC_NOT_GAP E_w_X_REC_NOT_GAP S_w_X_GAP E_w_X_GAP S_w_S E_w_S S_w_S_REC_NOT_GAP E_w_S_REC_NOT_GAP S_w_S_GAP E_w_S_GAP S_w_X_INSERT_INTENTION E_w_X_INSERT_INTENTION S_w_AUTO_INC E_w_AUTO_INC (by decide) (by decide) rfl) (fun h O => rm1_0 l s _ hw (1 : Int32) w_IX w_IS w_X w_X_REC_NOT_GAP w_X_GAP w_S w_S_REC_NOT_GAP w_S_GAP w_X_INSERT_INTENTION w_AUTO_INC w_IS h s.heap.size O S_w_IX E_w_IX S_w_IS E_w_IS S_w_X E_w_X S_w_X_REC_NOT_GAP E_w_X_REC_NOT_GAP S_w_X_GAP E_w_X_GAP S_w_S E_w_S S_w_S_REC_NOT_GAP E_w_S_REC_NOT_GAP S_w_S_GAP E_w_S_GAP S_w_X_INSERT_INTENTION E_w_X_INSERT_INTENTION S_w_AUTO_INC E_w_AUTO_INC (by decide) (by decide) rfl) E_w_AUTO_INC (fun h O => rm2_18 l s _ hw w_AUTO_INC w_IS h s.heap.size O (F_insertIntention_w_AUTO_INC.ext O.2) (F_insertIntention_w_IS.ext O.2) (Fld.ne F_ordinal_w_AUTO_INC F_ordinal_w_IS (by decide)) (F_keyLock_w_AUTO_INC.ext O.2)) (fun h O => rm3_0 l s _ hw (9 : Int32) (1 : Int32) (512 : Int32) h s.heap.size O (by decide) (by decide) rfl (by decide))
    · exact law_0 l s _ hw tables_1 p1 p2 (9 : Int32) (2 : Int32) w_AUTO_INC w_X (0 : Int32) s.heap s.heap.size (Old.start s) h1 h2 (fun h O => rm1_0 l s _ hw (9 : Int32) w_IX w_IS w_X w_X_REC_NOT_GAP w_X_GAP w_S w_S_REC_NOT_GAP w_S_GAP w_X_INSERT_INTENTION w_AUTO_INC w_AUTO_INC h s.heap.size O S_w_IX E_w_IX S_w_IS E_w_IS S_w_X E_w_X S_w_X_REC_NOT_GAP E_w_X_REC_NOT_GAP S_w_X_GAP E_w_X_GAP S_w_S E_w_S S_w_S_REC_NOT_GAP E_w_S_REC_NOT_GAP S_w_S_GAP E_w_S_GAP S_w_X_INSERT_INTENTION E_w_X_INSERT_INTENTION S_w_AUTO_INC E_w_AUTO_INC (by decide) (by decide) rfl) (fun h O => rm1_0 l s _ hw (2 : Int32) w_IX w_IS w_X w_X_REC_NOT_GAP w_X_GAP w_S w_S_REC_NOT_GAP w_S_GAP w_X_INSERT_INTENTION w_AUTO_INC w_X h s.heap.size O S_w_IX E_w_IX S_w_IS E_w_IS S_w_X E_w_X S_w_X_REC_NOT_GAP E_w_X_REC_NOT_GAP S_w_X_GAP E_w_X_GAP S_w_S E_w_S S_w_S_REC_NOT_GAP E_w_S_REC_NOT_GAP S_w_S_GAP E_w_S_GAP S_w_X_INSERT_INTENTION E_w_X_INSERT_INTENTION S_w_AUTO_INC E_w_AUTO_INC (by decide) (by decide) rfl) E_w_AUTO_INC (fun h O => rm2_18 l s _ hw w_AUTO_INC w_X h s.heap.size O (F_insertIntention_w_AUTO_INC.ext O.2) (F_insertIntention_w_X.ext O.2) (Fld.ne F_ordinal_w_AUTO_INC F_ordinal_w_X (by decide)) (F_keyLock_w_AUTO_INC.ext O.2)) (fun h O => rm3_0 l s _ hw (9 : Int32) (2 : Int32) (512 : Int32) h s.heap.size O (by decide) (by decide) rfl (by decide))
    · exact law_0 l s _ hw tables_1 p1 p2 (9 : Int32) (3 : Int32) w_AUTO_INC w_X_REC_NOT_GAP (0 : Int32) s.heap s.heap.size (Old.start s) h1 h2 (fun h O => rm1_0 l s _ hw (9 : Int32) w_IX w_IS w_X w_X_REC_NOT_GAP w_X_GAP w_S w_S_REC_NOT_GAP w_S_GAP w_X_INSERT_INTENTION w_AUTO_INC w_AUTO_INC h s.heap.size O S_w_IX E_w_IX S_w_IS E_w_IS S_w_X E_w_X S_w_X_REC_NOT_GAP E_w_X_REC_NOT_GAP S_w_X_GAP E_w_X_GAP S_w_S E_w_S S_w_S_REC_NOT_GAP E_w_S_REC_NOT_GAP S_w_S_GAP E_w_S_GAP S_w_X_INSERT_INTENTION E_w_X_INSERT_INTENTION S_w_AUTO_INC E_w_AUTO_INC (by decide) (by decide) rfl) (fun h O => rm1_0 l s _ hw (3 : Int32) w_IX w_IS w_X w_X_REC_NOT_GAP w_X_GAP w_S w_S_REC_NOT_GAP w_S_GAP w_X_INSERT_INTENTION w_AUTO_INC w_X_REC_NOT_GAP h s.heap.size O S_w_IX E_w_IX S_w_IS E_w_IS S_w_X E_w_X S_w_X_REC_NOT_GAP E_w_X_REC_NOT_GAP S_w_X_GAP E_w_X_GAP S_w_S E_w_S S_w_S_REC_NOT_GAP E_w_S_REC_NOT_GAP S_w_S_GAP E_w_S_GAP S_w_X_INSERT_INTENTION E_w_X_INSERT_INTENTION S_w_AUTO_INC E_w_AUTO_INC (by decide) (by decide) rfl) E_w_AUTO_INC (fun h O => rm2_18 l s _ hw w_AUTO_INC w_X_REC_NOT_GAP h s.heap.size O (F_insertIntention_w_AUTO_INC.ext O.2) (F_insertIntention_w_X_REC_NOT_GAP.ext O.2) (Fld.ne F_ordinal_w_AUTO_INC F_ordinal_w_X_REC_NOT_GAP (by decide)) (F_keyLock_w_AUTO_INC.ext O.2)) (fun h O => rm3_0 l s _ hw (9 : Int32) (3 : Int32) (512 : Int32) h s.heap.size O (by decide) (by decide) rfl (by decide))
    · exact law_0 l s _ hw tables_1 p1 p2 (9 : Int32) (4 : Int32) w_AUTO_INC w_X_GAP (0 : Int32) s.heap s.heap.size (Old.start s) h1 h2 (fun h O => rm1_0 l s _ hw (9 : Int32) w_IX w_IS w_X w_X_REC_NOT_GAP w_X_GAP w_S w_S_REC_NOT_GAP w_S_GAP w_X_INSERT_INTENTION w_AUTO_INC w_AUTO_INC h s.heap.size O S_w_IX E_w_IX S_w_IS E_w_IS S_w_X E_w_X S_w_X_REC_NOT_GAP E_w_X_REC_NOT_GAP S_w_X_GAP E_w_X_GAP S_w_S E_w_S S_w_S_REC_NOT_GAP E_w_S_REC_NOT_GAP S_w_S_GAP E_w_S_GAP S_w_X_INSERT_INTENTION E_w_X_INSERT_INTENTION S_w_AUTO_INC E_w_AUTO_INC (by decide) (by decide) rfl) (fun h O => rm1_0 l s _ hw (4 : Int32) w_IX w_IS w_X w_X_REC_NOT_GAP w_X_GAP w_S w_S_REC_NOT_GAP w_S_GAP w_X_INSERT_INTENTION w_AUTO_INC w_X_GAP h s.heap.size O S_w_IX E_w_IX S_w_IS E_w_IS S_w_X E_w_X S_w_X_REC_NOT_GAP E_w_X_REC_NOT_GAP S_w_X_GAP E_w_X_GAP S_w_S E_w_S S_w_S_REC_NOT_GAP E_w_S_REC_NOT_GAP S_w_S_GAP E_w_S_GAP S_w_X_INSERT_INTENTION E_w_X_INSERT_INTENTION S_w_AUTO_INC E_w_AUTO_INC (by decide) (by decide) rfl) E_w_AUTO_INC (fun h O => rm2_18 l s _ hw w_AUTO_INC w_X_GAP h s.heap.size O (F_insertIntention_w_AUTO_INC.ext O.2) (F_insertIntention_w_X_GAP.ext O.2) (Fld.ne F_ordinal_w_AUTO_INC F_ordinal_w_X_GAP (by decide)) (F_keyLock_w_AUTO_INC.ext O.2)) (fun h O => rm3_0 l s _ hw (9 : Int32) (4 : Int32) (512 : Int32) h s.heap.size O (by decide) (by decide) rfl (by decide))
    · exact law_0 l s _ hw tables_1 p1 p2 (9 : Int32) (5 : Int32) w_AUTO_INC w_S (0 : Int32) s.heap s.heap.size (Old.start s) h1 h2 (fun h O => rm1_0 l s _ hw (9 : Int32) w_IX w_IS w_X w_X_REC_NOT_GAP w_X_GAP w_S w_S_REC_NOT_GAP w_S_GAP w_X_INSERT_INTENTION w_AUTO_INC w_AUTO_INC h s.heap.size O S_w_IX E_w_IX S_w_IS E_w_IS S_w_X E_w_X S_w_X_REC_NOT_GAP E_w_X_REC_NOT_GAP S_w_X_GAP E_w_X_GAP S_w_S E_w_S S_w_S_REC_NOT_GAP E_w_S_REC_NOT_GAP S_w_S_GAP E_w_S_GAP S_w_X_INSERT_INTENTION E_w_X_INSERT_INTENTION S_w_AUTO_INC E_w_AUTO_INC (by decide) (by decide) rfl) (fun h O => rm1_0 l s _ hw (5 : Int32) w_IX w_IS w_X w_X_REC_NOT_GAP w_X_GAP w_S w_S_REC_NOT_GAP w_S_GAP w_X_INSERT_INTENTION w_AUTO_INC w_S h s.heap.size O S_w_IX E_w_IX S_w_IS E_w_IS S_w_X E_w_X S_w_X_REC_NOT_GAP E_w_X_REC_NOT_GAP S_w_X_GAP E_w_X_GAP S_w_S E_w_S S_w_S_REC_NOT_GAP E_w_S_REC_NOT_GAP S_w_S_GAP E_w_S_GAP S_w_X_INSERT_INTENTION E_w_X_INSERT_INTENTION S_w_AUTO_INC E_w_AUTO_INC (by decide) (by decide) rfl) E_w_AUTO_INC (fun h O => rm2_18 l s _ hw w_AUTO_INC w_S h s.heap.size O (F_insertIntention_w_AUTO_INC.ext O.2) (F_insertIntention_w_S.ext O.2) (Fld.ne F_ordinal_w_AUTO_INC F_ordinal_w_S (by decide)) (F_keyLock_w_AUTO_INC.ext O.2)) (fun h O => rm3_0 l s _ hw (9 : Int32) (5 : Int32) (512 : Int32) h s.heap.size O (by decide) (by decide) rfl (by decide))
    · exact law_0 l s _ hw tables_1 p1 p2 (9 : Int32) (6 : Int32) w_AUTO_INC w_S_REC_NOT_GAP (0 : Int32) s.heap s.heap.size (Old.start s) h1 h2 (fun h O => rm1_0 l s _ hw (9 : Int32) w_IX w_IS w_X w_X_REC_NOT_GAP w_X_GAP w_S w_S_REC_NOT_GAP w_S_GAP w_X_INSERT_INTENTION w_AUTO_INC w_AUTO_INC h s.heap.size O S_w_IX E_w_IX S_w_IS E_w_IS S_w_X E_w_X S_w_X_REC_NOT_GAP E_w_X_REC_NOT_GAP S_w_X_GAP E_w_X_GAP S_w_S E_w_S S_w_S_REC_NOT_GAP E_w_S_REC_NOT_GAP S_w_S_GAP E_w_S_GAP S_w_X_INSERT_INTENTION E_w_X_INSERT_INTENTION S_w_AUTO_INC E_w_AUTO_INC (by decide) (by decide) rfl) (fun h O => rm1_0 l s _ hw (6 : Int32) w_IX w_IS w_X w_X_REC_NOT_GAP w_X_GAP w_S w_S_REC_NOT_GAP w_S_GAP w_X_INSERT_INTENTION w_AUTO_INC w_S_REC_NOT_GAP h s.heap.size O S_w_IX E_w_IX S_w_IS E_w_IS S_w_X E_w_X S_w_X_REC_NOT_GAP E_w_X_REC_NOT_GAP S_w_X_GAP E_w_X_GAP S_w_S E_w_S S_w_S_REC_NOT_GAP E_w_S_REC_NOT_GAP S_w_S_GAP E_w_S_GAP S_w_X_INSERT_INTENTION E_w_X_INSERT_INTENTION S_w_AUTO_INC E_w_AUTO_INC (by decide) (by decide) rfl) E_w_AUTO_INC (fun h O => rm2_18 l s _ hw w_AUTO_INC w_S_REC_NOT_GAP h s.heap.size O (F_insertIntention_w_AUTO_INC.ext O.2) (F_insertIntention_w_S_REC_NOT_GAP.ext O.2) (Fld.ne F_ordinal_w_AUTO_INC F_ordinal_w_S_REC_NOT_GAP (by decide)) (F_keyLock_w_AUTO_INC.ext O.2)) (fun h O => rm3_0 l s _ hw (9 : Int32) (6 : Int32) (512 : Int32) h s.heap.size O (by decide) (by decide) rfl (by decide))
    · exact law_0 l s _ hw tables_1 p1 p2 (9 : Int32) (7 : Int32) w_AUTO_INC w_S_GAP (0 : Int32) s.heap s.heap.size (Old.start s) h1 h2 (fun h O => rm1_0 l s _ hw (9 : Int32) w_IX w_IS w_X w_X_REC_NOT_GAP w_X_GAP w_S w_S_REC_NOT_GAP w_S_GAP w_X_INSERT_INTENTION w_AUTO_INC w_AUTO_INC h s.heap.size O S_w_IX E_w_IX S_w_IS E_w_IS S_w_X E_w_X S_w_X_REC_NOT_GAP E_w_X_REC_NOT_GAP S_w_X_GAP E_w_X_GAP S_w_S E_w_S S_w_S_REC_NOT_GAP E_w_S_REC_NOT_GAP S_w_S_GAP E_w_S_GAP S_w_X_INSERT_INTENTION E_w_X_INSERT_INTENTION S_w_AUTO_INC E_w_AUTO_INC (by decide) (by decide) rfl) (fun h O => rm1_0 l s _ hw (7 : Int32) w_IX w_IS w_X w_X_REC_NOT_GAP w_X_GAP w_S w_S_REC_NOT_GAP w_S_GAP w_X_INSERT_INTENTION w_AUTO_INC w_S_GAP h s.heap.size O S_w_IX E_w_IX S_w_IS E_w_IS S_w_X E_w_X S_w_X_REC_NOT_GAP E_w_X_REC_NOT_GAP S_w_X_GAP E_w_X_GAP S_w_S E_w_S S_w_S_REC_NOT_GAP E_w_S_REC_NOT_GAP S_w_S_GAP E_w_S_GAP S_w_X_INSERT_INTENTION E_w_X_INSERT_INTENTION S_w_AUTO_INC E_w_AUTO_INC (by decide) (by decide) rfl) E_w_AUTO_INC (fun h O => rm2_18 l s _ hw w_AUTO_INC w_S_GAP h s.heap.size O (F_insertIntention_w_AUTO_INC.ext O.2) (F_insertIntention_w_S_GAP.ext O.2) (Fld.ne F_ordinal_w_AUTO_INC F_ordinal_w_S_GAP (by decide)) (F_keyLock_w_AUTO_INC.ext O.2)) (fun h O => rm3_0 l s _ hw (9 : Int32) (7 : Int32) (512 : Int32) h s.heap.size O (by decide) (by decide) rfl (by decide))
    · exact law_0 l s _ hw tables_1 p1 p2 (9 : Int32) (8 : Int32) w_AUTO_INC w_X_INSERT_INTENTION (0 : Int32) s.heap s.heap.size (Old.start s) h1 h2 (fun h O => rm1_0 l s _ hw (9 : Int32) w_IX w_IS w_X w_X_REC_NOT_GAP w_X_GAP w_S w_S_REC_NOT_GAP w_S_GAP w_X_INSERT_INTENTION w_AUTO_INC w_AUTO_INC h s.heap.size O S_w_IX E_w_IX S_w_IS E_w_IS S_w_X E_w_X S_w_X_REC_NOT_GAP E_w_X_REC_NOT_GAP S_w_X_GAP E_w_X_GAP S_w_S E_w_S S_w_S_REC_NOT_GAP E_w_S_REC_NOT_GAP S_w_S_GAP E_w_S_GAP S_w_X_INSERT_INTENTION E_w_X_INSERT_INTENTION S_w_AUTO_INC E_w_AUTO_INC (by decide) (by decide) rfl) (fun h O => rm1_0 l s _ hw (8 : Int32) w_IX w_IS w_X w_X_REC_NOT_GAP w_X_GAP w_S w_S_REC_NOT_GAP w_S_GAP w_X_INSERT_INTENTION w_AUTO_INC w_X_INSERT_INTENTION h s.heap.size O S_w_IX E_w_IX S_w_IS E_w_IS S_w_X E_w_X S_w_X_REC_NOT_GAP E_w_X_REC_NOT_GAP S_w_X_GAP E_w_X_GAP S_w_S E_w_S S_w_S_REC_NOT_GAP E_w_S_REC_NOT_GAP S_w_S_GAP E_w_S_GAP S_w_X_INSERT_INTENTION E_w_X_INSERT_INTENTION S_w_AUTO_INC E_w_AUTO_INC (by decide) (by decide) rfl) E_w_AUTO_INC (fun h O => rm2_3 l s _ hw w_AUTO_INC w_X_INSERT_INTENTION h s.heap.size O (F_insertIntention_w_AUTO_INC.ext O.2) (F_insertIntention_w_X_INSERT_INTENTION.ext O.2)) (fun h O => rm3_0 l s _ hw (9 : Int32) (8 : Int32) (512 : Int32) h s.heap.size O (by decide) (by decide) rfl (by decide))
    · exact law_0 l s _ hw tables_1 p1 p2 (9 : Int32) (9 : Int32) w_AUTO_INC w_AUTO_INC (1 : Int32) s.heap s.heap.size (Old.start s) h1 h2 (fun h O => rm1_0 l s _ hw (9 : Int32) w_IX w_IS w_X w_X_REC_NOT_GAP w_X_GAP w_S w_S_REC_NOT_GAP w_S_GAP w_X_INSERT_INTENTION w_AUTO_INC w_AUTO_INC h s.heap.size O S_w_IX E_w_IX S_w_IS E_w_IS S_w_X E_w_X S_w_X_REC_NOT_GAP E_w_X_REC_NOT_GAP S_w_X_GAP E_w_X_GAP S_w_S E_w_S S_w_S_REC_NOT_GAP E_w_S_REC_NOT_GAP S_w_S_GAP E_w_S_GAP S_w_X_INSERT_INTENTION E_w_X_INSERT_INTENTION S_w_AUTO_INC E_w_AUTO_INC (by decide) (by decide) rfl) (fun h O => rm1_0 l s _ hw (9 : Int32) w_IX w_IS w_X w_X_REC_NOT_GAP w_X_GAP w_S w_S_REC_NOT_GAP w_S_GAP w_X_INSERT_INTENTION w_AUTO_INC w_AUTO_INC h s.heap.size O S_w_IX E_w_IX S_w_IS E_w_IS S_w_X E_w_X S_w_X_REC_NOT_GAP E_w_X_REC_NOT_GAP S_w_X_GAP E_w_X_GAP S_w_S E_w_S S_w_S_REC_NOT_GAP E_w_S_REC_NOT_GAP S_w_S_GAP E_w_S_GAP S_w_X_INSERT_INTENTION E_w_X_INSERT_INTENTION S_w_AUTO_INC E_w_AUTO_INC (by decide) (by decide) rfl) E_w_AUTO_INC (fun h O => rm2_0 l s _ hw w_AUTO_INC h s.heap.size O (F_insertIntention_w_AUTO_INC.ext O.2)) (fun h O => rm3_1 l s _ hw (9 : Int32) (9 : Int32) (512 : Int32) h s.heap.size O (by decide) (by decide) rfl (by decide))
  obtain ⟨n, o, h1, h2, h3, _, L, rfl, ⟨rfl, N⟩, hq⟩ := key p e ha hc hk s m _ below hf ((Spec.applies_iff_loose hf).mp happ).1 ⟨rfl, State.Warmed39.refl s, rfl⟩ trivial
  refine ⟨n, _, h1, h2, h3, hpost _ _ _ _ _ _ ⟨Cond.after_iff.mpr rfl, Cond.after_iff.mpr (eq_i res_at (Term.int_eval (1)) rfl), trivial⟩ ⟨hq.1, hq.2.1, (hq.2.2.sift fun y hy => Or.inr (N y hy)).mono (by decide) (by decide)⟩⟩
theorem main_1_1 : Claimed_1_1 := comes_1 fun _ _ _ _ _ _ h hF => ⟨h.1, hF⟩
theorem main_1_2 : Claimed_1_2 := comes_1 fun _ _ _ _ _ _ h hF => ⟨h.2.1, hF⟩
end Jvm.Pilot.@@N@@
namespace Jvm.Pilot.@@N@@
open Jvm Jvm.ClassFile Sem Op Lib Jvm.Free Jvm.Stand Jvm.Pilot.@@N@@.Jvm.D
/-! MADE BY PROGRAM (witnessworld.py) out of the Statement's table words and the real class files: 13 classes; the members and pool entries that the words name. The judged class is class 1, her method 3. -/
namespace start1
open Jvm.ClassFile
def u (s : String) : CpInfo := .utf8 (stringToUtf16 s)
/-- a pool by its gaps: so many unusable entries, then the entry; so many at the end -/
def gap : Nat → List CpInfo → List CpInfo
  | 0, r => r
  | n + 1, r => .unusable :: gap n r
def poolList (es : List (Nat × CpInfo)) (last : Nat) : List CpInfo := es.foldr (fun e r => gap e.1 (e.2 :: r)) (gap last [])
def pool (es : List (Nat × CpInfo)) (last : Nat) : Array CpInfo := ⟨poolList es last⟩
def fileOf (pool : Array CpInfo) (this : Nat) (attrs : Array Attribute := #[]) (ms : Array MethodInfo := #[]) (fl : Nat := 33) (sup : Nat := 0) (ifs : Array Nat := #[]) (fds : Array FieldInfo := #[]) : ClassFile where
  minorVersion := 0
  majorVersion := 65
  constantPool := pool
  accessFlags := fl
  thisClass := this
  superClass := sup
  interfaces := ifs
  fields := fds
  methods := ms
  attributes := attrs
def plain (name : String) (sup : Option ClassId) : Class where
  name := name
  kind := .ordinary
  loader := none
  accessFlags := 33
  super := sup
  interfaces := #[]
  cf := none
  fields := #[]
  methods := #[]
  instanceTypes := #[]
  staticTypes := #[]
  resolved := #[]
  callSites := []
  init := .initialized
  statics := none
  mirror := none

def pool0 : Array CpInfo := pool [(5, u "<init>"), (0, u "()V"), (1, .class_ 10), (1, u "java/lang/Object")] 113

def k0m0 : Method := { name := "<init>", desc := "()V", sig := { parameters := [], returnType := none }, accessFlags := 1, code := none }
/-- java/lang/Object -/
def k0 : Class := { plain "java/lang/Object" none with
  accessFlags := 33
  interfaces := #[]
  cf := some (fileOf pool0 8 #[] #[{ accessFlags := 1, nameIndex := 5, descriptorIndex := 6, attributes := #[] }] 33 0 #[] #[])
  fields := #[]
  methods := #[k0m0]
  instanceTypes := #[]
  staticTypes := #[]
  resolved := Array.replicate 124 none
  statics := none }

def pool1 : Array CpInfo := pool [(2, .class_ 4), (1, u "java/lang/Object"), (0, u "<init>"), (0, u "()V"), (0, .class_ 8), (0, u "com/example/key_warden/keywarden/engine/LockMode"), (0, .fieldref 7 10), (0, .nameAndType 11 12), (0, u "IX"), (0, u "Lcom/example/key_warden/keywarden/engine/LockMode;"), (0, .fieldref 7 14), (0, .nameAndType 15 12), (0, u "IS"), (0, .fieldref 7 17), (0, .nameAndType 18 12), (0, u "X"), (0, .fieldref 7 20), (0, .nameAndType 21 12), (0, u "X_REC_NOT_GAP"), (0, .fieldref 7 23), (0, .nameAndType 24 12), (0, u "X_GAP"), (0, .fieldref 7 26), (0, .nameAndType 27 12), (0, u "S"), (0, .fieldref 7 29), (0, .nameAndType 30 12), (0, u "S_REC_NOT_GAP"), (0, .fieldref 7 32), (0, .nameAndType 33 12), (0, u "S_GAP"), (0, .fieldref 7 35), (0, .nameAndType 36 12), (0, u "X_INSERT_INTENTION"), (0, .fieldref 7 38), (0, .nameAndType 39 12), (0, u "AUTO_INC"), (0, .integer 2147483647), (0, .methodref 42 43), (0, .class_ 44), (0, .nameAndType 45 46), (0, u "com/example/key_warden/keywarden/engine/LockModeCoversPinLaw"), (0, u "mode"), (0, u "(I)Lcom/example/key_warden/keywarden/engine/LockMode;"), (0, .methodref 7 48), (0, .nameAndType 49 50), (0, u "covers"), (0, u "(Lcom/example/key_warden/keywarden/engine/LockMode;)Z"), (0, .methodref 42 52), (0, .nameAndType 53 54), (0, u "expected"), (0, u "(II)Z"), (5, u "law")] 2

def k1m0 : Method := { name := "<init>", desc := "()V", sig := { parameters := [], returnType := none }, accessFlags := 1, code := none }
def k1c1 : Code := { maxStack := 4, maxLocals := 2, code := method_2_code, exceptionTable := #[], attributes := #[] }
def k1m1 : Method := { name := "mode", desc := "(I)Lcom/example/key_warden/keywarden/engine/LockMode;", sig := { parameters := [.int], returnType := some (.object "com/example/key_warden/keywarden/engine/LockMode") }, accessFlags := 10, code := some k1c1 }
def k1c2 : Code := { maxStack := 4, maxLocals := 3, code := method_3_code, exceptionTable := #[], attributes := #[] }
def k1m2 : Method := { name := "expected", desc := "(II)Z", sig := { parameters := [.int, .int], returnType := some .boolean }, accessFlags := 10, code := some k1c2 }
def k1c3 : Code := { maxStack := 3, maxLocals := 6, code := code, exceptionTable := #[], attributes := #[] }
def k1m3 : Method := { name := "law", desc := "(II)Z", sig := { parameters := [.int, .int], returnType := some .boolean }, accessFlags := 9, code := some k1c3 }
/-- com/example/key_warden/keywarden/engine/LockModeCoversPinLaw -/
def k1 : Class := { plain "com/example/key_warden/keywarden/engine/LockModeCoversPinLaw" (some 0) with
  accessFlags := 49
  interfaces := #[]
  cf := some (fileOf pool1 42 #[] #[{ accessFlags := 1, nameIndex := 5, descriptorIndex := 6, attributes := #[] }, { accessFlags := 10, nameIndex := 45, descriptorIndex := 46, attributes := #[] }, { accessFlags := 10, nameIndex := 53, descriptorIndex := 54, attributes := #[] }, { accessFlags := 9, nameIndex := 60, descriptorIndex := 54, attributes := #[] }] 49 2 #[] #[])
  fields := #[]
  methods := #[k1m0, k1m1, k1m2, k1m3]
  instanceTypes := #[]
  staticTypes := #[]
  resolved := Array.replicate 63 none
  statics := none }

def pool2 : Array CpInfo := pool [(1, .class_ 2), (0, u "java/lang/constant/Constable"), (0, .class_ 4), (0, u "java/lang/Object")] 6

/-- java/lang/constant/Constable -/
def k2 : Class := { plain "java/lang/constant/Constable" (some 0) with
  accessFlags := 1537
  interfaces := #[]
  cf := some (fileOf pool2 1 #[] #[] 1537 3 #[] #[])
  fields := #[]
  methods := #[]
  instanceTypes := #[]
  staticTypes := #[]
  resolved := Array.replicate 11 none
  statics := none }

def pool3 : Array CpInfo := pool [(1, .class_ 2), (0, u "java/lang/Comparable"), (0, .class_ 4), (0, u "java/lang/Object")] 7

/-- java/lang/Comparable -/
def k3 : Class := { plain "java/lang/Comparable" (some 0) with
  accessFlags := 1537
  interfaces := #[]
  cf := some (fileOf pool3 1 #[] #[] 1537 3 #[] #[])
  fields := #[]
  methods := #[]
  instanceTypes := #[]
  staticTypes := #[]
  resolved := Array.replicate 12 none
  statics := none }

def pool4 : Array CpInfo := pool [(1, .class_ 2), (0, u "java/io/Serializable"), (0, .class_ 4), (0, u "java/lang/Object")] 2

/-- java/io/Serializable -/
def k4 : Class := { plain "java/io/Serializable" (some 0) with
  accessFlags := 1537
  interfaces := #[]
  cf := some (fileOf pool4 1 #[] #[] 1537 3 #[] #[])
  fields := #[]
  methods := #[]
  instanceTypes := #[]
  staticTypes := #[]
  resolved := Array.replicate 7 none
  statics := none }

def pool5 : Array CpInfo := pool [(2, .class_ 4), (1, u "java/lang/Enum"), (0, u "name"), (0, u "Ljava/lang/String;"), (2, u "ordinal"), (0, u "I"), (1, .class_ 14), (1, u "java/lang/Object"), (4, u "hash"), (86, .class_ 108), (1, u "java/lang/Enum$EnumDesc"), (2, .class_ 112), (0, u "java/lang/constant/Constable"), (0, .class_ 114), (0, u "java/lang/Comparable"), (0, .class_ 116), (0, u "java/io/Serializable")] 87

/-- java/lang/Enum -/
def k5 : Class := { plain "java/lang/Enum" (some 0) with
  accessFlags := 1057
  interfaces := #[2, 3, 4]
  cf := some (fileOf pool5 2 #[.nestMembers #[106]] #[] 1057 12 #[111, 113, 115] #[{ accessFlags := 18, nameIndex := 5, descriptorIndex := 6, attributes := #[] }, { accessFlags := 18, nameIndex := 9, descriptorIndex := 10, attributes := #[] }, { accessFlags := 2, nameIndex := 19, descriptorIndex := 10, attributes := #[] }])
  fields := #[{ name := "name", type := (.object "java/lang/String"), accessFlags := 18, slot := 0, constantValue := 0 }, { name := "ordinal", type := .int, accessFlags := 18, slot := 1, constantValue := 0 }, { name := "hash", type := .int, accessFlags := 2, slot := 2, constantValue := 0 }]
  methods := #[]
  instanceTypes := #[(.object "java/lang/String"), .int, .int]
  staticTypes := #[]
  resolved := Array.replicate 204 none
  statics := none }

def pool6 : Array CpInfo := pool [(1, .class_ 2), (0, u "com/example/key_warden/keywarden/engine/LockMode"), (2, u "IX"), (0, u "Lcom/example/key_warden/keywarden/engine/LockMode;"), (2, u "IS"), (2, u "X"), (2, u "X_REC_NOT_GAP"), (2, u "X_GAP"), (2, u "S"), (2, u "S_REC_NOT_GAP"), (2, u "S_GAP"), (2, u "X_INSERT_INTENTION"), (2, u "AUTO_INC"), (2, u "$VALUES"), (0, u "[Lcom/example/key_warden/keywarden/engine/LockMode;"), (6, .class_ 46), (1, u "java/lang/Enum"), (8, u "text"), (0, u "Ljava/lang/String;"), (2, u "supremumText"), (0, .fieldref 1 61), (0, .nameAndType 62 63), (0, u "intention"), (0, u "Z"), (0, .fieldref 1 65), (0, .nameAndType 66 63), (0, u "shared"), (0, .fieldref 1 68), (0, .nameAndType 69 63), (0, u "coversTarget"), (0, .fieldref 1 71), (0, .nameAndType 72 63), (0, u "coversGap"), (0, .fieldref 1 74), (0, .nameAndType 75 63), (0, u "insertIntention"), (0, .fieldref 1 77), (0, .nameAndType 78 63), (0, u "keyLock"), (52, u "(Lcom/example/key_warden/keywarden/engine/LockMode;)Z"), (0, u "covers")] 20

def k6c0 : Code := { maxStack := 2, maxLocals := 3, code := prog_26_method_7_code, exceptionTable := #[], attributes := #[] }
def k6m0 : Method := { name := "covers", desc := "(Lcom/example/key_warden/keywarden/engine/LockMode;)Z", sig := { parameters := [(.object "com/example/key_warden/keywarden/engine/LockMode")], returnType := some .boolean }, accessFlags := 0, code := some k6c0 }
/-- com/example/key_warden/keywarden/engine/LockMode -/
def k6 : Class := { plain "com/example/key_warden/keywarden/engine/LockMode" (some 5) with
  accessFlags := 16433
  interfaces := #[]
  cf := some (fileOf pool6 1 #[] #[{ accessFlags := 0, nameIndex := 132, descriptorIndex := 131, attributes := #[] }] 16433 44 #[] #[{ accessFlags := 16409, nameIndex := 5, descriptorIndex := 6, attributes := #[] }, { accessFlags := 16409, nameIndex := 9, descriptorIndex := 6, attributes := #[] }, { accessFlags := 16409, nameIndex := 12, descriptorIndex := 6, attributes := #[] }, { accessFlags := 16409, nameIndex := 15, descriptorIndex := 6, attributes := #[] }, { accessFlags := 16409, nameIndex := 18, descriptorIndex := 6, attributes := #[] }, { accessFlags := 16409, nameIndex := 21, descriptorIndex := 6, attributes := #[] }, { accessFlags := 16409, nameIndex := 24, descriptorIndex := 6, attributes := #[] }, { accessFlags := 16409, nameIndex := 27, descriptorIndex := 6, attributes := #[] }, { accessFlags := 16409, nameIndex := 30, descriptorIndex := 6, attributes := #[] }, { accessFlags := 16409, nameIndex := 33, descriptorIndex := 6, attributes := #[] }, { accessFlags := 18, nameIndex := 55, descriptorIndex := 56, attributes := #[] }, { accessFlags := 18, nameIndex := 59, descriptorIndex := 56, attributes := #[] }, { accessFlags := 18, nameIndex := 62, descriptorIndex := 63, attributes := #[] }, { accessFlags := 18, nameIndex := 66, descriptorIndex := 63, attributes := #[] }, { accessFlags := 18, nameIndex := 69, descriptorIndex := 63, attributes := #[] }, { accessFlags := 18, nameIndex := 72, descriptorIndex := 63, attributes := #[] }, { accessFlags := 18, nameIndex := 75, descriptorIndex := 63, attributes := #[] }, { accessFlags := 18, nameIndex := 78, descriptorIndex := 63, attributes := #[] }, { accessFlags := 4122, nameIndex := 36, descriptorIndex := 37, attributes := #[] }])
  fields := #[{ name := "IX", type := (.object "com/example/key_warden/keywarden/engine/LockMode"), accessFlags := 16409, slot := 0, constantValue := 0 }, { name := "IS", type := (.object "com/example/key_warden/keywarden/engine/LockMode"), accessFlags := 16409, slot := 1, constantValue := 0 }, { name := "X", type := (.object "com/example/key_warden/keywarden/engine/LockMode"), accessFlags := 16409, slot := 2, constantValue := 0 }, { name := "X_REC_NOT_GAP", type := (.object "com/example/key_warden/keywarden/engine/LockMode"), accessFlags := 16409, slot := 3, constantValue := 0 }, { name := "X_GAP", type := (.object "com/example/key_warden/keywarden/engine/LockMode"), accessFlags := 16409, slot := 4, constantValue := 0 }, { name := "S", type := (.object "com/example/key_warden/keywarden/engine/LockMode"), accessFlags := 16409, slot := 5, constantValue := 0 }, { name := "S_REC_NOT_GAP", type := (.object "com/example/key_warden/keywarden/engine/LockMode"), accessFlags := 16409, slot := 6, constantValue := 0 }, { name := "S_GAP", type := (.object "com/example/key_warden/keywarden/engine/LockMode"), accessFlags := 16409, slot := 7, constantValue := 0 }, { name := "X_INSERT_INTENTION", type := (.object "com/example/key_warden/keywarden/engine/LockMode"), accessFlags := 16409, slot := 8, constantValue := 0 }, { name := "AUTO_INC", type := (.object "com/example/key_warden/keywarden/engine/LockMode"), accessFlags := 16409, slot := 9, constantValue := 0 }, { name := "text", type := (.object "java/lang/String"), accessFlags := 18, slot := 3, constantValue := 0 }, { name := "supremumText", type := (.object "java/lang/String"), accessFlags := 18, slot := 4, constantValue := 0 }, { name := "intention", type := .boolean, accessFlags := 18, slot := 5, constantValue := 0 }, { name := "shared", type := .boolean, accessFlags := 18, slot := 6, constantValue := 0 }, { name := "coversTarget", type := .boolean, accessFlags := 18, slot := 7, constantValue := 0 }, { name := "coversGap", type := .boolean, accessFlags := 18, slot := 8, constantValue := 0 }, { name := "insertIntention", type := .boolean, accessFlags := 18, slot := 9, constantValue := 0 }, { name := "keyLock", type := .boolean, accessFlags := 18, slot := 10, constantValue := 0 }, { name := "$VALUES", type := (.array (.object "com/example/key_warden/keywarden/engine/LockMode")), accessFlags := 4122, slot := 10, constantValue := 0 }]
  methods := #[k6m0]
  instanceTypes := #[(.object "java/lang/String"), .int, .int, (.object "java/lang/String"), (.object "java/lang/String"), .boolean, .boolean, .boolean, .boolean, .boolean, .boolean]
  staticTypes := #[(.object "com/example/key_warden/keywarden/engine/LockMode"), (.object "com/example/key_warden/keywarden/engine/LockMode"), (.object "com/example/key_warden/keywarden/engine/LockMode"), (.object "com/example/key_warden/keywarden/engine/LockMode"), (.object "com/example/key_warden/keywarden/engine/LockMode"), (.object "com/example/key_warden/keywarden/engine/LockMode"), (.object "com/example/key_warden/keywarden/engine/LockMode"), (.object "com/example/key_warden/keywarden/engine/LockMode"), (.object "com/example/key_warden/keywarden/engine/LockMode"), (.object "com/example/key_warden/keywarden/engine/LockMode"), (.array (.object "com/example/key_warden/keywarden/engine/LockMode"))]
  resolved := Array.replicate 153 none
  statics := some 0 }

def pool7 : Array CpInfo := pool [(1, u "java/lang/Cloneable"), (0, .class_ 1), (0, u "java/lang/Object"), (0, .class_ 3)] 3

/-- java/lang/Cloneable -/
def k7 : Class := { plain "java/lang/Cloneable" (some 0) with
  accessFlags := 1537
  interfaces := #[]
  cf := some (fileOf pool7 2 #[] #[] 1537 4 #[] #[])
  fields := #[]
  methods := #[]
  instanceTypes := #[]
  staticTypes := #[]
  resolved := Array.replicate 8 none
  statics := none }

/-- the primitive byte -/
def k8 : Class := { plain "byte" none with kind := .primitive 'B', accessFlags := 0x411 }
/-- [B -/
def k9 : Class := { plain "[B" (some 0) with kind := .array 8 .byte, interfaces := #[7, 4], accessFlags := 1041 }

/-- the primitive int -/
def k10 : Class := { plain "int" none with kind := .primitive 'I', accessFlags := 0x411 }
/-- [I -/
def k11 : Class := { plain "[I" (some 0) with kind := .array 10 .int, interfaces := #[7, 4], accessFlags := 1041 }

/-- [Lcom/example/key_warden/keywarden/engine/LockMode; -/
def k12 : Class := { plain "[Lcom/example/key_warden/keywarden/engine/LockMode;" (some 0) with kind := .array 6 (.object "com/example/key_warden/keywarden/engine/LockMode"), interfaces := #[7, 4], accessFlags := 1041 }

def heap : Heap := #[{ cls := 6, slots := #[.ref 1, .ref 2, .ref 3, .ref 4, .ref 5, .ref 6, .ref 7, .ref 8, .ref 9, .ref 10, .null], vm := .statics 6 },
  { cls := 6, slots := #[.null, .int 0, .int 0, .null, .null, .int 1, .int 0, .int 1, .int 0, .int 0, .int 0], vm := .none },
  { cls := 6, slots := #[.null, .int 1, .int 0, .null, .null, .int 1, .int 1, .int 1, .int 0, .int 0, .int 0], vm := .none },
  { cls := 6, slots := #[.null, .int 2, .int 0, .null, .null, .int 0, .int 0, .int 1, .int 1, .int 0, .int 0], vm := .none },
  { cls := 6, slots := #[.null, .int 3, .int 0, .null, .null, .int 0, .int 0, .int 1, .int 0, .int 0, .int 0], vm := .none },
  { cls := 6, slots := #[.null, .int 4, .int 0, .null, .null, .int 0, .int 0, .int 0, .int 1, .int 0, .int 0], vm := .none },
  { cls := 6, slots := #[.null, .int 5, .int 0, .null, .null, .int 0, .int 1, .int 1, .int 1, .int 0, .int 0], vm := .none },
  { cls := 6, slots := #[.null, .int 6, .int 0, .null, .null, .int 0, .int 1, .int 1, .int 0, .int 0, .int 0], vm := .none },
  { cls := 6, slots := #[.null, .int 7, .int 0, .null, .null, .int 0, .int 1, .int 0, .int 1, .int 0, .int 0], vm := .none },
  { cls := 6, slots := #[.null, .int 0, .int 0, .null, .null, .int 0, .int 0, .int 0, .int 1, .int 1, .int 0], vm := .none },
  { cls := 6, slots := #[.null, .int 9, .int 0, .null, .null, .int 0, .int 0, .int 1, .int 0, .int 0, .int 1], vm := .none }]
def classes : Array Class := #[k0, k1, k2, k3, k4, k5, k6, k7, k8, k9, k10, k11, k12]
def interned : List (Array UInt16 × Addr) := []
def slotsUsed : Nat := 121
def theMethod : MethodId := ⟨1, 3⟩
def args0 : Array Value := #[.int 5, .int 6]
def aboutOver (below : List Frame) : State where
  vm := { classes := classes, interned := interned.toArray }
  heap := heap
  slotsUsed := slotsUsed
  threads := #[{ frames := .invoking theMethod args0 :: below }]
def below0 : List Frame := [.native { method := ⟨0, 0⟩, args := #[] }]
def about1 : State := aboutOver below0
def p0 : Program := .bare "" "" ""
def e0 : Env := launch0.env 0 0 0
theorem w_frames : about1.frames = Frame.invoking theMethod args0 :: below0 := rfl
set_option maxRecDepth 65536 in
theorem w_args : argsFit about1.vm theMethod args0 = true := by decide +kernel
set_option maxRecDepth 65536 in
theorem w_heap : heapFits about1 = true := by decide +kernel
set_option maxRecDepth 65536 in
theorem w_runnable : about1.curStatus? = some .runnable := by decide +kernel
set_option maxRecDepth 65536 in
theorem w_alone : about1.alone = true := by decide +kernel
set_option maxRecDepth 65536 in
theorem w_named : about1.methodNamed? x = some theMethod := by decide +kernel
set_option maxRecDepth 65536 in
theorem w_hears : about1.hears theMethod below0 = true := by decide +kernel
set_option maxRecDepth 65536 in
theorem w_ripe : about1.ripe theMethod args0 below0 = true := by decide +kernel
theorem w_running : about1.status = .running := rfl
set_option maxRecDepth 65536 in
theorem w_room : about1.hasRoom e0.platform room_1 = true :=
  launch0.hasRoom_least _ room_1 (by decide +kernel) (by decide +kernel) (by decide +kernel) (by decide +kernel) (by decide +kernel) (by decide +kernel)
theorem allAtoms_all (ts : List Jvm.Cond) (a : Array Jvm.Value) (st : Jvm.State) : (allAtoms ts).before a st = ts.all (fun c => c.before a st) := by
  induction ts with
  | nil => rfl
  | cons c t ih =>
    show (Jvm.Cond.and c (allAtoms t)).before a st = _
    rw [Jvm.Cond.before_and, ih, List.all_cons]
def words1 : List Jvm.Cond := Jvm.Cond.code x code maxLocals ret :: tables_1
/-- a 'code' word, met by the world's own term for the bytes: nothing is compared byte by byte -/
theorem code_word {y : MethodName} {bytes : ByteArray} {mx : Nat} {rt : Option FieldType} {a : Array Value} {s : State} {m : MethodId} {meth : Method} {c : Code} (h1 : s.methodNamed? y = some m) (h2 : s.vm.method? m = some meth) (h3 : meth.code = some c) (h4 : c.code = bytes)
    (h5 : (c.maxLocals == mx && c.exceptionTable.isEmpty && decide (c.maxStack ≤ mostOperands) && decide (meth.sig.returnType = rt) && !meth.locks && decide (parseMethodDescriptor y.desc = some meth.sig)) = true) : (Jvm.Cond.code y bytes mx rt).before a s = true := by
  simp only [Bool.and_eq_true, beq_iff_eq, Bool.not_eq_true', decide_eq_true_eq] at h5
  obtain ⟨⟨⟨⟨⟨g1, g2⟩, g3⟩, g4⟩, g5⟩, g6⟩ := h5
  simp [Cond.before, Cond.holds, Cond.value, h1, h2, h3, h4, g1, g2, g3, g4, g5, g6]
def isCode : Jvm.Cond → Bool
  | .code _ _ _ _ => true
  | _ => false
theorem all_split {L : List Jvm.Cond} {P : Jvm.Cond → Bool} (h1 : L.all (fun c => isCode c || P c) = true) (h2 : ∀ c ∈ L.filter isCode, P c = true) : L.all P = true := by
  refine List.all_eq_true.mpr fun c hc => ?_
  have h := List.all_eq_true.mp h1 c hc
  rcases Bool.eq_false_or_eq_true (isCode c) with hi | hi
  · exact h2 c (List.mem_filter.mpr ⟨hc, hi⟩)
  · simpa [hi] using h
set_option maxRecDepth 65536 in
theorem w_c0 : (Jvm.Cond.code x code maxLocals ret).before args0 about1 = true := code_word (m := ⟨1, 3⟩) (meth := k1m3) (c := k1c3) (by decide +kernel) rfl rfl rfl (by decide +kernel)
set_option maxRecDepth 65536 in
theorem w_c1 : (Jvm.Cond.code ({ cls := "com/example/key_warden/keywarden/engine/LockModeCoversPinLaw", name := "mode", desc := "(I)Lcom/example/key_warden/keywarden/engine/LockMode;" } : Jvm.MethodName) method_2_code (2 : Nat) (Option.some (Jvm.ClassFile.FieldType.object "com/example/key_warden/keywarden/engine/LockMode"))).before args0 about1 = true := code_word (m := ⟨1, 1⟩) (meth := k1m1) (c := k1c1) (by decide +kernel) rfl rfl rfl (by decide +kernel)
set_option maxRecDepth 65536 in
theorem w_c2 : (Jvm.Cond.code ({ cls := "com/example/key_warden/keywarden/engine/LockMode", name := "covers", desc := "(Lcom/example/key_warden/keywarden/engine/LockMode;)Z" } : Jvm.MethodName) prog_26_method_7_code (3 : Nat) (Option.some Jvm.ClassFile.FieldType.boolean)).before args0 about1 = true := code_word (m := ⟨6, 0⟩) (meth := k6m0) (c := k6c0) (by decide +kernel) rfl rfl rfl (by decide +kernel)
set_option maxRecDepth 65536 in
theorem w_c3 : (Jvm.Cond.code ({ cls := "com/example/key_warden/keywarden/engine/LockModeCoversPinLaw", name := "expected", desc := "(II)Z" } : Jvm.MethodName) method_3_code (3 : Nat) (Option.some Jvm.ClassFile.FieldType.boolean)).before args0 about1 = true := code_word (m := ⟨1, 2⟩) (meth := k1m2) (c := k1c2) (by decide +kernel) rfl rfl rfl (by decide +kernel)
def codes1 : List Jvm.Cond := [Jvm.Cond.code x code maxLocals ret, Jvm.Cond.code ({ cls := "com/example/key_warden/keywarden/engine/LockModeCoversPinLaw", name := "mode", desc := "(I)Lcom/example/key_warden/keywarden/engine/LockMode;" } : Jvm.MethodName) method_2_code (2 : Nat) (Option.some (Jvm.ClassFile.FieldType.object "com/example/key_warden/keywarden/engine/LockMode")), Jvm.Cond.code ({ cls := "com/example/key_warden/keywarden/engine/LockMode", name := "covers", desc := "(Lcom/example/key_warden/keywarden/engine/LockMode;)Z" } : Jvm.MethodName) prog_26_method_7_code (3 : Nat) (Option.some Jvm.ClassFile.FieldType.boolean), Jvm.Cond.code ({ cls := "com/example/key_warden/keywarden/engine/LockModeCoversPinLaw", name := "expected", desc := "(II)Z" } : Jvm.MethodName) method_3_code (3 : Nat) (Option.some Jvm.ClassFile.FieldType.boolean)]
set_option maxRecDepth 65536 in
theorem codes_eq : words1.filter isCode = codes1 := rfl
theorem w_codes : ∀ c ∈ words1.filter isCode, c.before args0 about1 = true := by
  rw [codes_eq]
  intro c hc
  simp only [codes1, List.mem_cons, List.not_mem_nil, or_false] at hc
  rcases hc with rfl | rfl | rfl | rfl
  · exact w_c0
  · exact w_c1
  · exact w_c2
  · exact w_c3
set_option maxRecDepth 65536 in
theorem w_t1 : (words1.take 24).all (fun c => isCode c || c.before args0 about1) = true := by decide +kernel
set_option maxRecDepth 65536 in
theorem w_t2 : ((words1.drop 24).take 24).all (fun c => isCode c || c.before args0 about1) = true := by decide +kernel
set_option maxRecDepth 65536 in
theorem w_t3 : ((words1.drop 24).drop 24).all (fun c => isCode c || c.before args0 about1) = true := by decide +kernel
theorem w_tables : (allAtoms (Jvm.Cond.code x code maxLocals ret :: tables_1)).before args0 about1 = true := by
  rw [allAtoms_all]
  show words1.all (fun c => c.before args0 about1) = true
  refine all_split ?_ w_codes
  rw [← List.take_append_drop 24 words1, List.all_append, w_t1, ← List.take_append_drop 24 (words1.drop 24), List.all_append, w_t2, w_t3]
  rfl
set_option maxRecDepth 65536 in
theorem w_case : (Jvm.Cond.and given_1 narrow_1).before args0 about1 = true := by decide +kernel
theorem w_applies : (headSpec (Jvm.Cond.code x code maxLocals ret :: tables_1) room_1).applies x e0.platform about1 = true :=
  (Spec.applies_iff w_frames).mpr ⟨w_running, w_runnable, w_alone, w_named, w_hears, w_ripe, w_room, w_tables⟩
theorem atStart : AtStart classFile x code maxLocals ret World_1 tables_1 room_1 Calls_1 rest_1 Pre_1 launch0 p0 e0 about1 theMethod args0 below0 :=
  ⟨lists_1, trivial, launch0.admits_env _ _ _, launch0.least_env, fairChoices_fair.cas, fairChoices_fair.clock, w_frames, w_args, w_heap, w_applies, trivial, trivial, w_case⟩
end start1
theorem witness_1 : WitnessClaimed_1 := ⟨start1.p0, start1.e0, start1.about1, start1.theMethod, start1.args0, start1.below0, start1.atStart⟩
end Jvm.Pilot.@@N@@
