import JvmDerived
import JvmDerived.Pilot.@@N@@Statement
import JvmDerived.Pilot.@@N@@Code
set_option linter.unusedVariables false
set_option linter.unusedSimpArgs false
namespace Jvm.RoadKit
open Sem ClassFile Op Lib Jvm.Stand Jvm.Free Jvm.LawKit
section New
variable {p : Program} {l : Launch} {e : Env} {R : Room} {s : State} {m : MethodId} {args : Array Value} {below : List Frame} {meth : Method} {c : Code} {T : State} {locs : List Loc} {cells slots : Nat}
theorem retI (X : Stand p l e R s m args below meth c T locs cells slots) (hx : p.tables.exec = Jvm.exec) {pc : Nat} {Ls : Array Slot} {z : Int32} {rest : List Value} (hret : meth.sig.returnType = some .int) (hd : decode c.code pc = .ok (.ireturn, 1)) {fs : List Frame}
    (hl : ∀ (f : JFrame) (acts : List Action), f.method = m → f.locked = none → f.entered = [] → (doReturn e (T.setTop f) acts (some (.int z))).1 = T.setFrames fs) : Steps p.tables e below (T.setTop (mkF m pc Ls (.int z :: rest))) (T.setFrames fs) :=
  retOut X hx hret rfl (Or.inl ⟨rfl, Or.inl rfl, z, rfl⟩) hd hl
theorem retL (X : Stand p l e R s m args below meth c T locs cells slots) (hx : p.tables.exec = Jvm.exec) {pc : Nat} {Ls : Array Slot} {z : Int64} {rest : List Value} (hret : meth.sig.returnType = some .long) (hd : decode c.code pc = .ok (.lreturn, 1)) {fs : List Frame}
    (hl : ∀ (f : JFrame) (acts : List Action), f.method = m → f.locked = none → f.entered = [] → (doReturn e (T.setTop f) acts (some (.long z))).1 = T.setFrames fs) : Steps p.tables e below (T.setTop (mkF m pc Ls (.long z :: rest))) (T.setFrames fs) :=
  retOut X hx hret rfl (Or.inr (Or.inl ⟨rfl, rfl, z, rfl⟩)) hd hl
theorem retA (X : Stand p l e R s m args below meth c T locs cells slots) (hx : p.tables.exec = Jvm.exec) {pc : Nat} {Ls : Array Slot} {t : FieldType} {w : Value} {rest : List Value} (hret : meth.sig.returnType = some t) (ht : t.isReference = true) (hw : w.isRef = true) (hn : narrow t w = w) (hd : decode c.code pc = .ok (.areturn, 1)) {fs : List Frame}
    (hl : ∀ (f : JFrame) (acts : List Action), f.method = m → f.locked = none → f.entered = [] → (doReturn e (T.setTop f) acts (some w)).1 = T.setFrames fs) : Steps p.tables e below (T.setTop (mkF m pc Ls (w :: rest))) (T.setFrames fs) :=
  retOut X hx hret hn (Or.inr (Or.inr (Or.inr (Or.inr ⟨rfl, ht, hw⟩)))) hd hl
end New
theorem own_fld {args : Array Value} {s : State} {t : Term} {C n d : String} {k : Int32} {w : Addr} (h : (Cond.eq (Term.field t C n d) (Term.int k)).value args s none s [] = some true) (ev : t.eval args s none [] s = some (.ref w)) : Fld s s.heap w C n d (.int k) := by
  have e1 : (Term.field t C n d).eval args s none [] s = s.fieldOf? w C n d := fld_at ev
  have e2 : (Term.int k).eval args s none [] s = some (.int k) := rfl
  obtain ⟨x, y, ex, ey, k1, k2⟩ := cmp_v (Or.inl h)
  cases e2.symm.trans ey
  obtain ⟨z, rfl⟩ := k2
  have q : z = k := gotT (P := z = k) (Cond.eq_ints ex e2) h
  subst q
  exact Fld.start (e1.symm.trans ex)
end Jvm.RoadKit
namespace Jvm.Pilot.@@N@@
open Jvm Jvm.ClassFile Sem Op Lib Jvm.Free Jvm.Stand Jvm.LawKit Jvm.RoadKit Bundle Jvm.Pilot.@@N@@.Jvm.D
def own_QP (r : Option Value) (n0 : Nat) (h0 : Heap) (v : Option Value) (h : Heap) (L : List Loc) : Prop := v = r ∧ Fr n0 L ∧ h = h0
def own_Q1 (n0 : Nat) (v : Option Value) (h : Heap) (L : List Loc) : Prop := v = some (.int (1 : Int32)) ∧ Fr n0 L

theorem d1_0 : decode prog_3_method_1_code 0 = .ok (.aload_n 0, 1) := by decide +kernel
theorem d1_1 : decode prog_3_method_1_code 1 = .ok (.invokespecial 1, 3) := by decide +kernel
theorem d1_4 : decode prog_3_method_1_code 4 = .ok (.aload_n 0, 1) := by decide +kernel
theorem d1_5 : decode prog_3_method_1_code 5 = .ok (.lload_n 1, 1) := by decide +kernel
theorem d1_6 : decode prog_3_method_1_code 6 = .ok (.putfield 7, 3) := by decide +kernel
theorem d1_9 : decode prog_3_method_1_code 9 = .ok (.aload_n 0, 1) := by decide +kernel
theorem d1_10 : decode prog_3_method_1_code 10 = .ok (.lload_n 3, 1) := by decide +kernel
theorem d1_11 : decode prog_3_method_1_code 11 = .ok (.putfield 13, 3) := by decide +kernel
theorem d1_14 : decode prog_3_method_1_code 14 = .ok (.aload_n 0, 1) := by decide +kernel
theorem d1_15 : decode prog_3_method_1_code 15 = .ok (.lload 5, 2) := by decide +kernel
theorem d1_17 : decode prog_3_method_1_code 17 = .ok (.putfield 16, 3) := by decide +kernel
theorem d1_20 : decode prog_3_method_1_code 20 = .ok (.aload_n 0, 1) := by decide +kernel
theorem d1_21 : decode prog_3_method_1_code 21 = .ok (.lload 7, 2) := by decide +kernel
theorem d1_23 : decode prog_3_method_1_code 23 = .ok (.putfield 19, 3) := by decide +kernel
theorem d1_26 : decode prog_3_method_1_code 26 = .ok (.return_, 1) := by decide +kernel
theorem d3_0 : decode prog_3_method_6_code 0 = .ok (.aload_n 1, 1) := by decide +kernel
theorem d3_1 : decode prog_3_method_6_code 1 = .ok (.instanceof 8, 3) := by decide +kernel
theorem d3_4 : decode prog_3_method_6_code 4 = .ok (.ifCond .ne 5, 3) := by decide +kernel
theorem d3_7 : decode prog_3_method_6_code 7 = .ok (.iconst 0, 1) := by decide +kernel
theorem d3_8 : decode prog_3_method_6_code 8 = .ok (.ireturn, 1) := by decide +kernel
theorem d3_9 : decode prog_3_method_6_code 9 = .ok (.aload_n 1, 1) := by decide +kernel
theorem d3_10 : decode prog_3_method_6_code 10 = .ok (.checkcast 8, 3) := by decide +kernel
theorem d3_13 : decode prog_3_method_6_code 13 = .ok (.astore_n 2, 1) := by decide +kernel
theorem d3_14 : decode prog_3_method_6_code 14 = .ok (.aload_n 0, 1) := by decide +kernel
theorem d3_15 : decode prog_3_method_6_code 15 = .ok (.getfield 7, 3) := by decide +kernel
theorem d3_18 : decode prog_3_method_6_code 18 = .ok (.aload_n 2, 1) := by decide +kernel
theorem d3_19 : decode prog_3_method_6_code 19 = .ok (.getfield 7, 3) := by decide +kernel
theorem d3_22 : decode prog_3_method_6_code 22 = .ok (.lcmp, 1) := by decide +kernel
theorem d3_23 : decode prog_3_method_6_code 23 = .ok (.ifCond .ne 43, 3) := by decide +kernel
theorem d3_26 : decode prog_3_method_6_code 26 = .ok (.aload_n 0, 1) := by decide +kernel
theorem d3_27 : decode prog_3_method_6_code 27 = .ok (.getfield 13, 3) := by decide +kernel
theorem d3_30 : decode prog_3_method_6_code 30 = .ok (.aload_n 2, 1) := by decide +kernel
theorem d3_31 : decode prog_3_method_6_code 31 = .ok (.getfield 13, 3) := by decide +kernel
theorem d3_34 : decode prog_3_method_6_code 34 = .ok (.lcmp, 1) := by decide +kernel
theorem d3_35 : decode prog_3_method_6_code 35 = .ok (.ifCond .ne 31, 3) := by decide +kernel
theorem d3_38 : decode prog_3_method_6_code 38 = .ok (.aload_n 0, 1) := by decide +kernel
theorem d3_39 : decode prog_3_method_6_code 39 = .ok (.getfield 16, 3) := by decide +kernel
theorem d3_42 : decode prog_3_method_6_code 42 = .ok (.aload_n 2, 1) := by decide +kernel
theorem d3_43 : decode prog_3_method_6_code 43 = .ok (.getfield 16, 3) := by decide +kernel
theorem d3_46 : decode prog_3_method_6_code 46 = .ok (.lcmp, 1) := by decide +kernel
theorem d3_47 : decode prog_3_method_6_code 47 = .ok (.ifCond .ne 19, 3) := by decide +kernel
theorem d3_50 : decode prog_3_method_6_code 50 = .ok (.aload_n 0, 1) := by decide +kernel
theorem d3_51 : decode prog_3_method_6_code 51 = .ok (.getfield 19, 3) := by decide +kernel
theorem d3_54 : decode prog_3_method_6_code 54 = .ok (.aload_n 2, 1) := by decide +kernel
theorem d3_55 : decode prog_3_method_6_code 55 = .ok (.getfield 19, 3) := by decide +kernel
theorem d3_58 : decode prog_3_method_6_code 58 = .ok (.lcmp, 1) := by decide +kernel
theorem d3_59 : decode prog_3_method_6_code 59 = .ok (.ifCond .ne 7, 3) := by decide +kernel
theorem d3_62 : decode prog_3_method_6_code 62 = .ok (.iconst 1, 1) := by decide +kernel
theorem d3_63 : decode prog_3_method_6_code 63 = .ok (.goto 4, 3) := by decide +kernel
theorem d3_66 : decode prog_3_method_6_code 66 = .ok (.iconst 0, 1) := by decide +kernel
theorem d3_67 : decode prog_3_method_6_code 67 = .ok (.ireturn, 1) := by decide +kernel
theorem d4_0 : decode jdk_35_method_24_code 0 = .ok (.sipush 128, 3) := by decide +kernel
theorem d4_3 : decode jdk_35_method_24_code 3 = .ok (.istore_n 2, 1) := by decide +kernel
theorem d4_4 : decode jdk_35_method_24_code 4 = .ok (.lload_n 0, 1) := by decide +kernel
theorem d4_5 : decode jdk_35_method_24_code 5 = .ok (.ldc2_w 230, 3) := by decide +kernel
theorem d4_8 : decode jdk_35_method_24_code 8 = .ok (.lcmp, 1) := by decide +kernel
theorem d4_9 : decode jdk_35_method_24_code 9 = .ok (.ifCond .lt 22, 3) := by decide +kernel
theorem d4_12 : decode jdk_35_method_24_code 12 = .ok (.lload_n 0, 1) := by decide +kernel
theorem d4_13 : decode jdk_35_method_24_code 13 = .ok (.ldc2_w 232, 3) := by decide +kernel
theorem d4_16 : decode jdk_35_method_24_code 16 = .ok (.lcmp, 1) := by decide +kernel
theorem d4_17 : decode jdk_35_method_24_code 17 = .ok (.ifCond .gt 14, 3) := by decide +kernel
theorem d4_20 : decode jdk_35_method_24_code 20 = .ok (.getstatic 234, 3) := by decide +kernel
theorem d4_23 : decode jdk_35_method_24_code 23 = .ok (.lload_n 0, 1) := by decide +kernel
theorem d4_24 : decode jdk_35_method_24_code 24 = .ok (.l2i, 1) := by decide +kernel
theorem d4_25 : decode jdk_35_method_24_code 25 = .ok (.sipush 128, 3) := by decide +kernel
theorem d4_28 : decode jdk_35_method_24_code 28 = .ok (.iadd, 1) := by decide +kernel
theorem d4_29 : decode jdk_35_method_24_code 29 = .ok (.aaload, 1) := by decide +kernel
theorem d4_30 : decode jdk_35_method_24_code 30 = .ok (.areturn, 1) := by decide +kernel
theorem d4_31 : decode jdk_35_method_24_code 31 = .ok (.new 1, 3) := by decide +kernel
theorem d4_34 : decode jdk_35_method_24_code 34 = .ok (.dup, 1) := by decide +kernel
theorem d4_35 : decode jdk_35_method_24_code 35 = .ok (.lload_n 0, 1) := by decide +kernel
theorem d4_36 : decode jdk_35_method_24_code 36 = .ok (.invokespecial 240, 3) := by decide +kernel
theorem d4_39 : decode jdk_35_method_24_code 39 = .ok (.areturn, 1) := by decide +kernel
theorem d5_0 : decode jdk_35_method_26_code 0 = .ok (.aload_n 0, 1) := by decide +kernel
theorem d5_1 : decode jdk_35_method_26_code 1 = .ok (.invokespecial 270, 3) := by decide +kernel
theorem d5_4 : decode jdk_35_method_26_code 4 = .ok (.aload_n 0, 1) := by decide +kernel
theorem d5_5 : decode jdk_35_method_26_code 5 = .ok (.lload_n 1, 1) := by decide +kernel
theorem d5_6 : decode jdk_35_method_26_code 6 = .ok (.putfield 273, 3) := by decide +kernel
theorem d5_9 : decode jdk_35_method_26_code 9 = .ok (.return_, 1) := by decide +kernel
theorem d6_0 : decode jdk_18_method_1_code 0 = .ok (.aload_n 0, 1) := by decide +kernel
theorem d6_1 : decode jdk_18_method_1_code 1 = .ok (.invokespecial 1, 3) := by decide +kernel
theorem d6_4 : decode jdk_18_method_1_code 4 = .ok (.return_, 1) := by decide +kernel
theorem pn_0 : plainName "com/example/bide/bide/QueueCounts" = true := by first | (simp [plainName, overriddenIn]; done) | decide +kernel
theorem ef_1_RJJJJ (m : MethodId) (x0 : Addr) (x1 : Int64) (x2 : Int64) (x3 : Int64) (x4 : Int64) : entryFrame m #[(.ref x0), (.long x1), (.long x2), (.long x3), (.long x4)] 9 = mkF m 0 #[.val (.ref x0), .val (.long x1), .second, .val (.long x2), .second, .val (.long x3), .second, .val (.long x4), .second] [] := by first | (simp [entryFrame, mkF, argsToLocals, Value.category]; done) | rfl
theorem pd_2 : parseMethodDescriptor "(JJJJ)V" = some ⟨[.long, .long, .long, .long], none⟩ := by decide +kernel
theorem ef_3_RR (m : MethodId) (x0 : Addr) (x1 : Addr) : entryFrame m #[(.ref x0), (.ref x1)] 3 = mkF m 0 #[.val (.ref x0), .val (.ref x1), .unset] [] := by first | (simp [entryFrame, mkF, argsToLocals, Value.category]; done) | rfl
theorem pd_4 : parseMethodDescriptor "(Ljava/lang/Object;)Z" = some ⟨[(.object "java/lang/Object")], some .boolean⟩ := by decide +kernel
theorem pn_5 : plainName "com/example/bide/bide/QueueCountsEqualsPinLaw" = true := by first | (simp [plainName, overriddenIn]; done) | decide +kernel
theorem ef_0_JJJJJI (m : MethodId) (x0 : Int64) (x1 : Int64) (x2 : Int64) (x3 : Int64) (x4 : Int64) (x5 : Int32) : entryFrame m #[(.long x0), (.long x1), (.long x2), (.long x3), (.long x4), (.int x5)] maxLocals = mkF m 0 #[.val (.long x0), .second, .val (.long x1), .second, .val (.long x2), .second, .val (.long x3), .second, .val (.long x4), .second, .val (.int x5), .unset, .unset, .unset, .unset, .unset, .unset, .unset, .unset, .unset, .unset, .unset, .unset, .unset] [] := by first | (simp [entryFrame, mkF, argsToLocals, Value.category, maxLocals]; done) | rfl
theorem ef_3_RN (m : MethodId) (x0 : Addr) : entryFrame m #[(.ref x0), .null] 3 = mkF m 0 #[.val (.ref x0), .val .null, .unset] [] := by first | (simp [entryFrame, mkF, argsToLocals, Value.category]; done) | rfl
theorem pn_8 : plainName "java/lang/Number" = true := by first | (simp [plainName, overriddenIn]; done) | decide +kernel
theorem ef_6_R (m : MethodId) (x0 : Addr) : entryFrame m #[(.ref x0)] 1 = mkF m 0 #[.val (.ref x0)] [] := by first | (simp [entryFrame, mkF, argsToLocals, Value.category]; done) | rfl
theorem pd_10 : parseMethodDescriptor "()V" = some ⟨[], none⟩ := by decide +kernel
theorem pn_11 : plainName "java/lang/Long" = true := by first | (simp [plainName, overriddenIn]; done) | decide +kernel
theorem ef_5_RJ (m : MethodId) (x0 : Addr) (x1 : Int64) : entryFrame m #[(.ref x0), (.long x1)] 3 = mkF m 0 #[.val (.ref x0), .val (.long x1), .second] [] := by first | (simp [entryFrame, mkF, argsToLocals, Value.category]; done) | rfl
theorem pd_13 : parseMethodDescriptor "(J)V" = some ⟨[.long], none⟩ := by decide +kernel
theorem ef_4_J (m : MethodId) (x0 : Int64) : entryFrame m #[(.long x0)] 3 = mkF m 0 #[.val (.long x0), .second, .unset] [] := by first | (simp [entryFrame, mkF, argsToLocals, Value.category]; done) | rfl
theorem pd_15 : parseMethodDescriptor "(J)Ljava/lang/Long;" = some ⟨[.long], some (.object "java/lang/Long")⟩ := by decide +kernel
theorem own_nsroot {Z : State} {a0 : Array Value} {O K : String} {n : Nat} (w : (Cond.noSuperclass O).before a0 Z = true) (wk : (Cond.instantiable K n).before a0 Z = true) (hn : O ≠ K) : NS Z O K := by
  obtain ⟨c, k, h1, h2, h3, -, -⟩ := Cond.noSuperclass_spec w
  obtain ⟨t, kt, g1, -⟩ := Cond.instantiable_spec wk
  refine ⟨c, t, h1, g1, fun fuel => ?_⟩
  have ne := ids_ne h1 g1 hn
  rcases fuel with _ | f
  · rfl
  · simp [Vm.isSubclassAux, ne, h2, h3]
theorem own_nsno {Z : State} {a0 : Array Value} {C S K : String} {n : Nat} (w : (Cond.superclass C S).before a0 Z = true) (wk : (Cond.instantiable K n).before a0 Z = true) (u : NS Z C K) (hn : C ≠ K) : ∃ c t, Z.vm.findClass C = some c ∧ Z.vm.findClass K = some t ∧ Z.vm.assignable c t = false := by
  obtain ⟨c, t, h0, g0, u3⟩ := u
  obtain ⟨-, k, -, -, h2, -, -, h5, -, -⟩ := Cond.superclass_spec h0 w
  obtain ⟨t', kt, g1, g2, g3, g4, -, -⟩ := Cond.instantiable_spec wk
  cases g0.symm.trans g1
  have g5 : kt.isInterface = false := by
    cases hq : kt.isInterface with
    | false => rfl
    | true => rw [hq] at g4; cases g4
  have ne := ids_ne h0 g0 hn
  refine ⟨c, t, h0, g0, ?_⟩
  show Z.vm.assignableAux (255 + 1) c t = false
  simp [Vm.assignableAux, ne, h2, g2, h5, g3, g5, Vm.isSubclass, u3]
def own_b (p k : Int32) (x d : Int64) : Int64 := if ((p &&& (15 : Int32)) &&& k) = (0 : Int32) then x else (x + d)
theorem own_b_pos {p k : Int32} {x d : Int64} (h : ((p &&& (15 : Int32)) &&& k) = (0 : Int32)) : own_b p k x d = x := if_pos h
theorem own_b_neg {p k : Int32} {x d : Int64} (h : ¬ ((p &&& (15 : Int32)) &&& k) = (0 : Int32)) : own_b p k x d = x + d := if_neg h
theorem own_b_zero {p k : Int32} {x : Int64} : own_b p k x 0 = x := by unfold own_b; split <;> simp
def Q_rm1_0 (Z : State) (r1 : Addr) (q2 : Int64) (q3 : Int64) (q4 : Int64) (q5 : Int64) (n0 : Nat) (h0 : Heap) (v : Option Value) (h : Heap) (L : List Loc) : Prop := v = none ∧ Fr n0 L ∧ Keep h0 h [r1] ∧ Fld Z h r1 "com/example/bide/bide/QueueCounts" "pending" "J" (.long q2) ∧ Fld Z h r1 "com/example/bide/bide/QueueCounts" "due" "J" (.long q3) ∧ Fld Z h r1 "com/example/bide/bide/QueueCounts" "leased" "J" (.long q4) ∧ Fld Z h r1 "com/example/bide/bide/QueueCounts" "dead" "J" (.long q5)
set_option maxRecDepth 65536 in
set_option maxHeartbeats 40000000 in
theorem rm1_0 (l : Launch) (Z : State) (a0 : Array Value) (hw : ∀ d ∈ tables_1, d.before a0 Z = true) (r1 : Addr) (q2 : Int64) (q3 : Int64) (q4 : Int64) (q5 : Int64) (h0 : Heap) (n0 : Nat) (O0 : Old Z n0 h0) (P1 : Exa Z h0 r1 "com/example/bide/bide/QueueCounts") (P2 : Fld Z h0 r1 "com/example/bide/bide/QueueCounts" "pending" "J" (.long (0 : Int64))) (P3 : Fld Z h0 r1 "com/example/bide/bide/QueueCounts" "due" "J" (.long (0 : Int64))) (P4 : Fld Z h0 r1 "com/example/bide/bide/QueueCounts" "leased" "J" (.long (0 : Int64))) (P5 : Fld Z h0 r1 "com/example/bide/bide/QueueCounts" "dead" "J" (.long (0 : Int64))) (P6 : n0 ≤ r1) :
    MetFree l (⟨"com/example/bide/bide/QueueCounts", "<init>", "(JJJJ)V"⟩ : MethodName) (head1 [Jvm.Cond.code (⟨"com/example/bide/bide/QueueCounts", "<init>", "(JJJJ)V"⟩ : MethodName) prog_3_method_1_code 9 none] ({ frames := 1, cells := 0, slots := 0, locals := 12 } : Room)) (fun a U => a = #[(.ref r1), (.long q2), (.long q3), (.long q4), (.long q5)] ∧ Z.Warmed39 U.vm ∧ U.heap = h0) (fun _ _ _ _ _ => True) (fun _ U o U' => ∃ v L, o = .returned v ∧ Q_rm1_0 Z r1 q2 q3 q4 q5 n0 h0 v U'.heap L ∧ FrameEnd U o U' L ({ frames := 1, cells := 0, slots := 0, locals := 12 } : Room).cells ({ frames := 1, cells := 0, slots := 0, locals := 12 } : Room).slots) := by
  refine MetFree.of_bodySF (plainFor_of_name pn_0) hisR ?_
  intro p e s m args below meth c s₁ Bd hml0 hP hK
  obtain ⟨rfl, hZ, hh⟩ := hP
  have hx := Bd.exec
  have hby := Bd.bytes
  have hml : c.maxLocals = 9 := hml0
  have hown : s.vm.findClass "com/example/bide/bide/QueueCounts" = some m.cls := findClass_of_methodNamed Bd.named
  have hnm := (name_of_methodNamed Bd.named Bd.method).1
  have X0 : Stand p l e ({ frames := 1, cells := 0, slots := 0, locals := 12 } : Room) s m #[(.ref r1), (.long q2), (.long q3), (.long q4), (.long q5)] below meth c s₁ [] 0 0 := Stand.of_body Bd
  have e0 : s₁.heap = h0 := by rw [← hh, Bd.state]; rfl
  have N0 := Fr.nil n0
  have pre0 : ∀ t, Steps p.tables e below (s₁.setTop (mkF m 0 #[.val (.ref r1), .val (.long q2), .second, .val (.long q3), .second, .val (.long q4), .second, .val (.long q5), .second] [])) t → Steps p.tables e below (s₁.setTop (entryFrame m #[(.ref r1), (.long q2), (.long q3), (.long q4), (.long q5)] 9)) t := fun t k => castTop (ef_1_RJJJJ m r1 q2 q3 q4 q5) k
  obtain ⟨T1, X1, e1, st1⟩ := initO X0 hx hZ hown (hw _ (List.mem_of_getElem? (i := 6) rfl)) (hw _ (List.mem_of_getElem? (i := 7) rfl)) (hw _ (List.mem_of_getElem? (i := 8) rfl)) e0 (g := (mkF m 1 #[.val (.ref r1), .val (.long q2), .second, .val (.long q3), .second, .val (.long q4), .second, .val (.long q5), .second] [(.ref r1)])) rfl (by rw [hml]; rfl) rfl (hb hby d1_1) (by decide) (W := 0) (by show 2 * 0 + _ ≤ _; exact Nat.le_of_eq rfl) (by decide)
  obtain ⟨T2, h2, X2, e2, W2, st2⟩ := putF X1 hx hZ hown (host := "") (Or.inl (hw _ (List.mem_of_getElem? (i := 9) rfl))) Via.refl e1 P2 P1 (Or.inr ⟨(hw _ (List.mem_of_getElem? (i := 10) rfl)), rfl, hnm⟩) (hw _ (List.mem_of_getElem? (i := 1) rfl)) (ty := .long) (by decide) rfl rfl (g := (mkF m 6 #[.val (.ref r1), .val (.long q2), .second, .val (.long q3), .second, .val (.long q4), .second, .val (.long q5), .second] [(.long q2), (.ref r1)])) rfl rfl (hb hby d1_6)
  have Fw2 := P2.same W2
  have KK2 : Keep h0 h2 [r1] := (Keep.refl h0 [r1]).wr W2 (Or.inl (List.mem_of_getElem? (i := 0) rfl))
  have O2 := O0.wr W2 P6
  have N2 := Fr.snoc X2 N0 P6
  have fc3 := (P3.other W2 (Or.inr (slot_ne (Or.inr (hw _ (List.mem_of_getElem? (i := 12) rfl))) (Or.inr (hw _ (List.mem_of_getElem? (i := 10) rfl))) (by decide) (t := .long) (t' := .long) (by decide) (by decide))))
  obtain ⟨T4, h4, X4, e4, W4, st4⟩ := putF X2 hx hZ hown (host := "") (Or.inl (hw _ (List.mem_of_getElem? (i := 11) rfl))) Via.refl e2 fc3 (P1.wr W2) (Or.inr ⟨(hw _ (List.mem_of_getElem? (i := 12) rfl)), rfl, hnm⟩) (hw _ (List.mem_of_getElem? (i := 1) rfl)) (ty := .long) (by decide) rfl rfl (g := (mkF m 11 #[.val (.ref r1), .val (.long q2), .second, .val (.long q3), .second, .val (.long q4), .second, .val (.long q5), .second] [(.long q3), (.ref r1)])) rfl rfl (hb hby d1_11)
  have Fw4 := fc3.same W4
  have KK4 : Keep h0 h4 [r1] := KK2.wr W4 (Or.inl (List.mem_of_getElem? (i := 0) rfl))
  have O4 := O2.wr W4 P6
  have N4 := Fr.snoc X4 N2 P6
  have fc5 := ((P4.other W2 (Or.inr (slot_ne (Or.inr (hw _ (List.mem_of_getElem? (i := 14) rfl))) (Or.inr (hw _ (List.mem_of_getElem? (i := 10) rfl))) (by decide) (t := .long) (t' := .long) (by decide) (by decide)))).other W4 (Or.inr (slot_ne (Or.inr (hw _ (List.mem_of_getElem? (i := 14) rfl))) (Or.inr (hw _ (List.mem_of_getElem? (i := 12) rfl))) (by decide) (t := .long) (t' := .long) (by decide) (by decide))))
  obtain ⟨T6, h6, X6, e6, W6, st6⟩ := putF X4 hx hZ hown (host := "") (Or.inl (hw _ (List.mem_of_getElem? (i := 13) rfl))) Via.refl e4 fc5 ((P1.wr W2).wr W4) (Or.inr ⟨(hw _ (List.mem_of_getElem? (i := 14) rfl)), rfl, hnm⟩) (hw _ (List.mem_of_getElem? (i := 1) rfl)) (ty := .long) (by decide) rfl rfl (g := (mkF m 17 #[.val (.ref r1), .val (.long q2), .second, .val (.long q3), .second, .val (.long q4), .second, .val (.long q5), .second] [(.long q4), (.ref r1)])) rfl rfl (hb hby d1_17)
  have Fw6 := fc5.same W6
  have KK6 : Keep h0 h6 [r1] := KK4.wr W6 (Or.inl (List.mem_of_getElem? (i := 0) rfl))
  have O6 := O4.wr W6 P6
  have N6 := Fr.snoc X6 N4 P6
  have fc7 := (((P5.other W2 (Or.inr (slot_ne (Or.inr (hw _ (List.mem_of_getElem? (i := 16) rfl))) (Or.inr (hw _ (List.mem_of_getElem? (i := 10) rfl))) (by decide) (t := .long) (t' := .long) (by decide) (by decide)))).other W4 (Or.inr (slot_ne (Or.inr (hw _ (List.mem_of_getElem? (i := 16) rfl))) (Or.inr (hw _ (List.mem_of_getElem? (i := 12) rfl))) (by decide) (t := .long) (t' := .long) (by decide) (by decide)))).other W6 (Or.inr (slot_ne (Or.inr (hw _ (List.mem_of_getElem? (i := 16) rfl))) (Or.inr (hw _ (List.mem_of_getElem? (i := 14) rfl))) (by decide) (t := .long) (t' := .long) (by decide) (by decide))))
  obtain ⟨T8, h8, X8, e8, W8, st8⟩ := putF X6 hx hZ hown (host := "") (Or.inl (hw _ (List.mem_of_getElem? (i := 15) rfl))) Via.refl e6 fc7 (((P1.wr W2).wr W4).wr W6) (Or.inr ⟨(hw _ (List.mem_of_getElem? (i := 16) rfl)), rfl, hnm⟩) (hw _ (List.mem_of_getElem? (i := 1) rfl)) (ty := .long) (by decide) rfl rfl (g := (mkF m 23 #[.val (.ref r1), .val (.long q2), .second, .val (.long q3), .second, .val (.long q4), .second, .val (.long q5), .second] [(.long q5), (.ref r1)])) rfl rfl (hb hby d1_23)
  have Fw8 := fc7.same W8
  have KK8 : Keep h0 h8 [r1] := KK6.wr W8 (Or.inl (List.mem_of_getElem? (i := 0) rfl))
  have O8 := O6.wr W8 P6
  have N8 := Fr.snoc X8 N6 P6
  have fc9 := (((Fw2.other W4 (Or.inr (slot_ne (Or.inr (hw _ (List.mem_of_getElem? (i := 10) rfl))) (Or.inr (hw _ (List.mem_of_getElem? (i := 12) rfl))) (by decide) (t := .long) (t' := .long) (by decide) (by decide)))).other W6 (Or.inr (slot_ne (Or.inr (hw _ (List.mem_of_getElem? (i := 10) rfl))) (Or.inr (hw _ (List.mem_of_getElem? (i := 14) rfl))) (by decide) (t := .long) (t' := .long) (by decide) (by decide)))).other W8 (Or.inr (slot_ne (Or.inr (hw _ (List.mem_of_getElem? (i := 10) rfl))) (Or.inr (hw _ (List.mem_of_getElem? (i := 16) rfl))) (by decide) (t := .long) (t' := .long) (by decide) (by decide))))
  have fc10 := ((Fw4.other W6 (Or.inr (slot_ne (Or.inr (hw _ (List.mem_of_getElem? (i := 12) rfl))) (Or.inr (hw _ (List.mem_of_getElem? (i := 14) rfl))) (by decide) (t := .long) (t' := .long) (by decide) (by decide)))).other W8 (Or.inr (slot_ne (Or.inr (hw _ (List.mem_of_getElem? (i := 12) rfl))) (Or.inr (hw _ (List.mem_of_getElem? (i := 16) rfl))) (by decide) (t := .long) (t' := .long) (by decide) (by decide))))
  have fc11 := (Fw6.other W8 (Or.inr (slot_ne (Or.inr (hw _ (List.mem_of_getElem? (i := 14) rfl))) (Or.inr (hw _ (List.mem_of_getElem? (i := 16) rfl))) (by decide) (t := .long) (t' := .long) (by decide) (by decide))))
  obtain ⟨fs, hr, hrun, hended, hW, hsame⟩ := X8.leave (v := none) (fun _ => rfl)
  refine ⟨_, _, pre0 _ ?_, hrun, hended, _, _, rfl, ?_, ⟨_, rfl⟩, hW, hsame.mono (by decide) (by decide)⟩
  · show Steps p.tables e below (s₁.setTop (mkF m 0 #[.val (.ref r1), .val (.long q2), .second, .val (.long q3), .second, .val (.long q4), .second, .val (.long q5), .second] [])) _
    refine XS.aloadN X0.here hx rfl (hb hby d1_0) rfl rfl ?_
    show Steps p.tables e below (s₁.setTop (mkF m 1 #[.val (.ref r1), .val (.long q2), .second, .val (.long q3), .second, .val (.long q4), .second, .val (.long q5), .second] [(.ref r1)])) _
    refine st1 _ ?_
    show Steps p.tables e below (T1.setTop (mkF m 4 #[.val (.ref r1), .val (.long q2), .second, .val (.long q3), .second, .val (.long q4), .second, .val (.long q5), .second] [])) _
    refine XS.aloadN X1.here hx rfl (hb hby d1_4) rfl rfl ?_
    show Steps p.tables e below (T1.setTop (mkF m 5 #[.val (.ref r1), .val (.long q2), .second, .val (.long q3), .second, .val (.long q4), .second, .val (.long q5), .second] [(.ref r1)])) _
    refine XS.lloadN X1.here hx rfl (hb hby d1_5) rfl ?_
    show Steps p.tables e below (T1.setTop (mkF m 6 #[.val (.ref r1), .val (.long q2), .second, .val (.long q3), .second, .val (.long q4), .second, .val (.long q5), .second] [(.long q2), (.ref r1)])) _
    refine st2 _ ?_
    show Steps p.tables e below (T2.setTop (mkF m 9 #[.val (.ref r1), .val (.long q2), .second, .val (.long q3), .second, .val (.long q4), .second, .val (.long q5), .second] [])) _
    refine XS.aloadN X2.here hx rfl (hb hby d1_9) rfl rfl ?_
    show Steps p.tables e below (T2.setTop (mkF m 10 #[.val (.ref r1), .val (.long q2), .second, .val (.long q3), .second, .val (.long q4), .second, .val (.long q5), .second] [(.ref r1)])) _
    refine XS.lloadN X2.here hx rfl (hb hby d1_10) rfl ?_
    show Steps p.tables e below (T2.setTop (mkF m 11 #[.val (.ref r1), .val (.long q2), .second, .val (.long q3), .second, .val (.long q4), .second, .val (.long q5), .second] [(.long q3), (.ref r1)])) _
    refine st4 _ ?_
    show Steps p.tables e below (T4.setTop (mkF m 14 #[.val (.ref r1), .val (.long q2), .second, .val (.long q3), .second, .val (.long q4), .second, .val (.long q5), .second] [])) _
    refine XS.aloadN X4.here hx rfl (hb hby d1_14) rfl rfl ?_
    show Steps p.tables e below (T4.setTop (mkF m 15 #[.val (.ref r1), .val (.long q2), .second, .val (.long q3), .second, .val (.long q4), .second, .val (.long q5), .second] [(.ref r1)])) _
    refine XS.lload X4.here hx rfl (hb hby d1_15) rfl ?_
    show Steps p.tables e below (T4.setTop (mkF m 17 #[.val (.ref r1), .val (.long q2), .second, .val (.long q3), .second, .val (.long q4), .second, .val (.long q5), .second] [(.long q4), (.ref r1)])) _
    refine st6 _ ?_
    show Steps p.tables e below (T6.setTop (mkF m 20 #[.val (.ref r1), .val (.long q2), .second, .val (.long q3), .second, .val (.long q4), .second, .val (.long q5), .second] [])) _
    refine XS.aloadN X6.here hx rfl (hb hby d1_20) rfl rfl ?_
    show Steps p.tables e below (T6.setTop (mkF m 21 #[.val (.ref r1), .val (.long q2), .second, .val (.long q3), .second, .val (.long q4), .second, .val (.long q5), .second] [(.ref r1)])) _
    refine XS.lload X6.here hx rfl (hb hby d1_21) rfl ?_
    show Steps p.tables e below (T6.setTop (mkF m 23 #[.val (.ref r1), .val (.long q2), .second, .val (.long q3), .second, .val (.long q4), .second, .val (.long q5), .second] [(.long q5), (.ref r1)])) _
    refine st8 _ ?_
    show Steps p.tables e below (T8.setTop (mkF m 26 #[.val (.ref r1), .val (.long q2), .second, .val (.long q3), .second, .val (.long q4), .second, .val (.long q5), .second] [])) _
    exact X8.returnOut hx Bd.returns (hb hby d1_26) hr
  · show Q_rm1_0 Z r1 q2 q3 q4 q5 n0 h0 _ T8.heap _
    rw [e8]
    exact ⟨rfl, N8, KK8, fc9, fc10, fc11, Fw8⟩
set_option maxRecDepth 65536 in
set_option maxHeartbeats 40000000 in
theorem rm3_0 (l : Launch) (Z : State) (a0 : Array Value) (hw : ∀ d ∈ tables_1, d.before a0 Z = true) (r1 : Addr) (r2 : Addr) (q3 : Int64) (q4 : Int64) (q5 : Int64) (q6 : Int64) (q7 : Int64) (q8 : Int64) (q9 : Int64) (q10 : Int64) (h0 : Heap) (n0 : Nat) (O0 : Old Z n0 h0) (P1 : Exa Z h0 r2 "com/example/bide/bide/QueueCounts") (P2 : Fld Z h0 r1 "com/example/bide/bide/QueueCounts" "pending" "J" (.long q3)) (P3 : Fld Z h0 r2 "com/example/bide/bide/QueueCounts" "pending" "J" (.long q4)) (P4 : (lcmpW q3 q4) = (0 : Int32)) (P5 : Fld Z h0 r1 "com/example/bide/bide/QueueCounts" "due" "J" (.long q5)) (P6 : Fld Z h0 r2 "com/example/bide/bide/QueueCounts" "due" "J" (.long q6)) (P7 : (lcmpW q5 q6) = (0 : Int32)) (P8 : Fld Z h0 r1 "com/example/bide/bide/QueueCounts" "leased" "J" (.long q7)) (P9 : Fld Z h0 r2 "com/example/bide/bide/QueueCounts" "leased" "J" (.long q8)) (P10 : (lcmpW q7 q8) = (0 : Int32)) (P11 : Fld Z h0 r1 "com/example/bide/bide/QueueCounts" "dead" "J" (.long q9)) (P12 : Fld Z h0 r2 "com/example/bide/bide/QueueCounts" "dead" "J" (.long q10)) (P13 : (lcmpW q9 q10) = (0 : Int32)) :
    MetFree l (⟨"com/example/bide/bide/QueueCounts", "equals", "(Ljava/lang/Object;)Z"⟩ : MethodName) (head1 [Jvm.Cond.code (⟨"com/example/bide/bide/QueueCounts", "equals", "(Ljava/lang/Object;)Z"⟩ : MethodName) prog_3_method_6_code 3 (some .boolean)] ({ frames := 0, cells := 0, slots := 0, locals := 0 } : Room)) (fun a U => a = #[(.ref r1), (.ref r2)] ∧ Z.Warmed39 U.vm ∧ U.heap = h0) (fun _ _ _ _ _ => True) (fun _ U o U' => ∃ v L, o = .returned v ∧ own_QP (some (.int (1 : Int32))) n0 h0 v U'.heap L ∧ FrameEnd U o U' L ({ frames := 0, cells := 0, slots := 0, locals := 0 } : Room).cells ({ frames := 0, cells := 0, slots := 0, locals := 0 } : Room).slots) := by
  refine MetFree.of_bodySF (plainFor_of_name pn_0) hisR ?_
  intro p e s m args below meth c s₁ Bd hml0 hP hK
  obtain ⟨rfl, hZ, hh⟩ := hP
  have hx := Bd.exec
  have hby := Bd.bytes
  have hml : c.maxLocals = 3 := hml0
  have hown : s.vm.findClass "com/example/bide/bide/QueueCounts" = some m.cls := findClass_of_methodNamed Bd.named
  have hnm := (name_of_methodNamed Bd.named Bd.method).1
  have X0 : Stand p l e ({ frames := 0, cells := 0, slots := 0, locals := 0 } : Room) s m #[(.ref r1), (.ref r2)] below meth c s₁ [] 0 0 := Stand.of_body Bd
  have e0 : s₁.heap = h0 := by rw [← hh, Bd.state]; rfl
  have N0 := Fr.nil n0
  have pre0 : ∀ t, Steps p.tables e below (s₁.setTop (mkF m 0 #[.val (.ref r1), .val (.ref r2), .unset] [])) t → Steps p.tables e below (s₁.setTop (entryFrame m #[(.ref r1), (.ref r2)] 3)) t := fun t k => castTop (ef_3_RR m r1 r2) k
  obtain ⟨T1, X1, e1, st1⟩ := instY X0 hx hZ hown (hw _ (List.mem_of_getElem? (i := 22) rfl)) e0 (Ins.self P1) (g := (mkF m 1 #[.val (.ref r1), .val (.ref r2), .unset] [(.ref r2)])) rfl rfl (hb hby d3_1)
  obtain ⟨T2, X2, e2, st2⟩ := castY X1 hx hZ hown (hw _ (List.mem_of_getElem? (i := 22) rfl)) e1 (Ins.self P1) (g := (mkF m 10 #[.val (.ref r1), .val (.ref r2), .unset] [(.ref r2)])) rfl rfl (hb hby d3_10)
  obtain ⟨T3, X3, e3, st3⟩ := getF X2 hx hZ hown (host := "") (Or.inl (hw _ (List.mem_of_getElem? (i := 9) rfl))) Via.refl e2 P2 (g := (mkF m 15 #[.val (.ref r1), .val (.ref r2), .val (.ref r2)] [(.ref r1)])) rfl rfl (hb hby d3_15)
  obtain ⟨T4, X4, e4, st4⟩ := getF X3 hx hZ hown (host := "") (Or.inl (hw _ (List.mem_of_getElem? (i := 9) rfl))) Via.refl e3 P3 (g := (mkF m 19 #[.val (.ref r1), .val (.ref r2), .val (.ref r2)] [(.ref r2), (.long q3)])) rfl rfl (hb hby d3_19)
  obtain ⟨T5, X5, e5, st5⟩ := getF X4 hx hZ hown (host := "") (Or.inl (hw _ (List.mem_of_getElem? (i := 11) rfl))) Via.refl e4 P5 (g := (mkF m 27 #[.val (.ref r1), .val (.ref r2), .val (.ref r2)] [(.ref r1)])) rfl rfl (hb hby d3_27)
  obtain ⟨T6, X6, e6, st6⟩ := getF X5 hx hZ hown (host := "") (Or.inl (hw _ (List.mem_of_getElem? (i := 11) rfl))) Via.refl e5 P6 (g := (mkF m 31 #[.val (.ref r1), .val (.ref r2), .val (.ref r2)] [(.ref r2), (.long q5)])) rfl rfl (hb hby d3_31)
  obtain ⟨T7, X7, e7, st7⟩ := getF X6 hx hZ hown (host := "") (Or.inl (hw _ (List.mem_of_getElem? (i := 13) rfl))) Via.refl e6 P8 (g := (mkF m 39 #[.val (.ref r1), .val (.ref r2), .val (.ref r2)] [(.ref r1)])) rfl rfl (hb hby d3_39)
  obtain ⟨T8, X8, e8, st8⟩ := getF X7 hx hZ hown (host := "") (Or.inl (hw _ (List.mem_of_getElem? (i := 13) rfl))) Via.refl e7 P9 (g := (mkF m 43 #[.val (.ref r1), .val (.ref r2), .val (.ref r2)] [(.ref r2), (.long q7)])) rfl rfl (hb hby d3_43)
  obtain ⟨T9, X9, e9, st9⟩ := getF X8 hx hZ hown (host := "") (Or.inl (hw _ (List.mem_of_getElem? (i := 15) rfl))) Via.refl e8 P11 (g := (mkF m 51 #[.val (.ref r1), .val (.ref r2), .val (.ref r2)] [(.ref r1)])) rfl rfl (hb hby d3_51)
  obtain ⟨T10, X10, e10, st10⟩ := getF X9 hx hZ hown (host := "") (Or.inl (hw _ (List.mem_of_getElem? (i := 15) rfl))) Via.refl e9 P12 (g := (mkF m 55 #[.val (.ref r1), .val (.ref r2), .val (.ref r2)] [(.ref r2), (.long q9)])) rfl rfl (hb hby d3_55)
  obtain ⟨fs, hr, hrun, hended, hW, hsame⟩ := X10.leave (v := (some (.int (1 : Int32)))) (fun h => by rw [Bd.returns] at h; cases h)
  refine ⟨_, _, pre0 _ ?_, hrun, hended, _, _, rfl, ?_, ⟨_, rfl⟩, hW, hsame.mono (by decide) (by decide)⟩
  · show Steps p.tables e below (s₁.setTop (mkF m 0 #[.val (.ref r1), .val (.ref r2), .unset] [])) _
    refine XS.aloadN X0.here hx rfl (hb hby d3_0) rfl rfl ?_
    show Steps p.tables e below (s₁.setTop (mkF m 1 #[.val (.ref r1), .val (.ref r2), .unset] [(.ref r2)])) _
    refine st1 _ ?_
    show Steps p.tables e below (T1.setTop (mkF m 4 #[.val (.ref r1), .val (.ref r2), .unset] [(.int (1 : Int32))])) _
    refine XS.ifYes X1.here hx rfl (pc0 := 4) (pc' := 9) rfl (hb hby d3_4) rfl (by decide) (by decide) (by decide) ?_
    show Steps p.tables e below (T1.setTop (mkF m 9 #[.val (.ref r1), .val (.ref r2), .unset] [])) _
    refine XS.aloadN X1.here hx rfl (hb hby d3_9) rfl rfl ?_
    show Steps p.tables e below (T1.setTop (mkF m 10 #[.val (.ref r1), .val (.ref r2), .unset] [(.ref r2)])) _
    refine st2 _ ?_
    show Steps p.tables e below (T2.setTop (mkF m 13 #[.val (.ref r1), .val (.ref r2), .unset] [(.ref r2)])) _
    refine XS.astoreN X2.here hx rfl (hb hby d3_13) rfl rfl (l' := #[.val (.ref r1), .val (.ref r2), .val (.ref r2)]) rfl ?_
    show Steps p.tables e below (T2.setTop (mkF m 14 #[.val (.ref r1), .val (.ref r2), .val (.ref r2)] [])) _
    refine XS.aloadN X2.here hx rfl (hb hby d3_14) rfl rfl ?_
    show Steps p.tables e below (T2.setTop (mkF m 15 #[.val (.ref r1), .val (.ref r2), .val (.ref r2)] [(.ref r1)])) _
    refine st3 _ ?_
    show Steps p.tables e below (T3.setTop (mkF m 18 #[.val (.ref r1), .val (.ref r2), .val (.ref r2)] [(.long q3)])) _
    refine XS.aloadN X3.here hx rfl (hb hby d3_18) rfl rfl ?_
    show Steps p.tables e below (T3.setTop (mkF m 19 #[.val (.ref r1), .val (.ref r2), .val (.ref r2)] [(.ref r2), (.long q3)])) _
    refine st4 _ ?_
    show Steps p.tables e below (T4.setTop (mkF m 22 #[.val (.ref r1), .val (.ref r2), .val (.ref r2)] [(.long q4), (.long q3)])) _
    refine XS.lcmp X4.here hx rfl (hb hby d3_22) rfl ?_
    show Steps p.tables e below (T4.setTop (mkF m 23 #[.val (.ref r1), .val (.ref r2), .val (.ref r2)] [(.int (lcmpW q3 q4))])) _
    refine XS.ifNo X4.here hx rfl (hb hby d3_23) rfl ((if0 _ _).trans (teq P4).2) ?_
    show Steps p.tables e below (T4.setTop (mkF m 26 #[.val (.ref r1), .val (.ref r2), .val (.ref r2)] [])) _
    refine XS.aloadN X4.here hx rfl (hb hby d3_26) rfl rfl ?_
    show Steps p.tables e below (T4.setTop (mkF m 27 #[.val (.ref r1), .val (.ref r2), .val (.ref r2)] [(.ref r1)])) _
    refine st5 _ ?_
    show Steps p.tables e below (T5.setTop (mkF m 30 #[.val (.ref r1), .val (.ref r2), .val (.ref r2)] [(.long q5)])) _
    refine XS.aloadN X5.here hx rfl (hb hby d3_30) rfl rfl ?_
    show Steps p.tables e below (T5.setTop (mkF m 31 #[.val (.ref r1), .val (.ref r2), .val (.ref r2)] [(.ref r2), (.long q5)])) _
    refine st6 _ ?_
    show Steps p.tables e below (T6.setTop (mkF m 34 #[.val (.ref r1), .val (.ref r2), .val (.ref r2)] [(.long q6), (.long q5)])) _
    refine XS.lcmp X6.here hx rfl (hb hby d3_34) rfl ?_
    show Steps p.tables e below (T6.setTop (mkF m 35 #[.val (.ref r1), .val (.ref r2), .val (.ref r2)] [(.int (lcmpW q5 q6))])) _
    refine XS.ifNo X6.here hx rfl (hb hby d3_35) rfl ((if0 _ _).trans (teq P7).2) ?_
    show Steps p.tables e below (T6.setTop (mkF m 38 #[.val (.ref r1), .val (.ref r2), .val (.ref r2)] [])) _
    refine XS.aloadN X6.here hx rfl (hb hby d3_38) rfl rfl ?_
    show Steps p.tables e below (T6.setTop (mkF m 39 #[.val (.ref r1), .val (.ref r2), .val (.ref r2)] [(.ref r1)])) _
    refine st7 _ ?_
    show Steps p.tables e below (T7.setTop (mkF m 42 #[.val (.ref r1), .val (.ref r2), .val (.ref r2)] [(.long q7)])) _
    refine XS.aloadN X7.here hx rfl (hb hby d3_42) rfl rfl ?_
    show Steps p.tables e below (T7.setTop (mkF m 43 #[.val (.ref r1), .val (.ref r2), .val (.ref r2)] [(.ref r2), (.long q7)])) _
    refine st8 _ ?_
    show Steps p.tables e below (T8.setTop (mkF m 46 #[.val (.ref r1), .val (.ref r2), .val (.ref r2)] [(.long q8), (.long q7)])) _
    refine XS.lcmp X8.here hx rfl (hb hby d3_46) rfl ?_
    show Steps p.tables e below (T8.setTop (mkF m 47 #[.val (.ref r1), .val (.ref r2), .val (.ref r2)] [(.int (lcmpW q7 q8))])) _
    refine XS.ifNo X8.here hx rfl (hb hby d3_47) rfl ((if0 _ _).trans (teq P10).2) ?_
    show Steps p.tables e below (T8.setTop (mkF m 50 #[.val (.ref r1), .val (.ref r2), .val (.ref r2)] [])) _
    refine XS.aloadN X8.here hx rfl (hb hby d3_50) rfl rfl ?_
    show Steps p.tables e below (T8.setTop (mkF m 51 #[.val (.ref r1), .val (.ref r2), .val (.ref r2)] [(.ref r1)])) _
    refine st9 _ ?_
    show Steps p.tables e below (T9.setTop (mkF m 54 #[.val (.ref r1), .val (.ref r2), .val (.ref r2)] [(.long q9)])) _
    refine XS.aloadN X9.here hx rfl (hb hby d3_54) rfl rfl ?_
    show Steps p.tables e below (T9.setTop (mkF m 55 #[.val (.ref r1), .val (.ref r2), .val (.ref r2)] [(.ref r2), (.long q9)])) _
    refine st10 _ ?_
    show Steps p.tables e below (T10.setTop (mkF m 58 #[.val (.ref r1), .val (.ref r2), .val (.ref r2)] [(.long q10), (.long q9)])) _
    refine XS.lcmp X10.here hx rfl (hb hby d3_58) rfl ?_
    show Steps p.tables e below (T10.setTop (mkF m 59 #[.val (.ref r1), .val (.ref r2), .val (.ref r2)] [(.int (lcmpW q9 q10))])) _
    refine XS.ifNo X10.here hx rfl (hb hby d3_59) rfl ((if0 _ _).trans (teq P13).2) ?_
    show Steps p.tables e below (T10.setTop (mkF m 62 #[.val (.ref r1), .val (.ref r2), .val (.ref r2)] [])) _
    refine XS.iconst X10.here hx rfl (hb hby d3_62) ?_
    show Steps p.tables e below (T10.setTop (mkF m 63 #[.val (.ref r1), .val (.ref r2), .val (.ref r2)] [(.int (1 : Int32))])) _
    refine XS.goto X10.here hx rfl (pc0 := 63) (pc' := 67) rfl (hb hby d3_63) (by decide) (by decide) ?_
    show Steps p.tables e below (T10.setTop (mkF m 67 #[.val (.ref r1), .val (.ref r2), .val (.ref r2)] [(.int (1 : Int32))])) _
    exact retN X10 hx (t := .boolean) Bd.returns (by simp) (hb hby d3_67) hr
  · show own_QP (some (.int (1 : Int32))) n0 h0 _ T10.heap _
    rw [e10]
    exact ⟨rfl, N0, rfl⟩
set_option maxRecDepth 65536 in
set_option maxHeartbeats 40000000 in
theorem law_0 (l : Launch) (Z : State) (a0 : Array Value) (hw : ∀ d ∈ tables_1, d.before a0 Z = true) (ws : List Jvm.Cond) (q1 : Int64) (q2 : Int64) (q3 : Int64) (q4 : Int64) (q5 : Int64) (p6 : Int32) (h0 : Heap) (n0 : Nat) (O0 : Old Z n0 h0) (P1 : (((p6.toUInt32 >>> ((4 : Int32) &&& 31).toUInt32).toInt32) &&& (3 : Int32)) = (0 : Int32)) (P2 : (p6 &&& (15 : Int32)) = (0 : Int32)) (P3 : (lcmpW q1 (own_b p6 (1 : Int32) q1 q5)) = (0 : Int32)) (P4 : (lcmpW q2 (own_b p6 (2 : Int32) q2 q5)) = (0 : Int32)) (P5 : (lcmpW q3 (own_b p6 (4 : Int32) q3 q5)) = (0 : Int32)) (P6 : (lcmpW q4 (own_b p6 (8 : Int32) q4 q5)) = (0 : Int32)) (P7 : (lcmpW (own_b p6 (1 : Int32) q1 q5) q1) = (0 : Int32)) (P8 : (lcmpW (own_b p6 (2 : Int32) q2 q5) q2) = (0 : Int32)) (P9 : (lcmpW (own_b p6 (4 : Int32) q3 q5) q3) = (0 : Int32)) (P10 : (lcmpW (own_b p6 (8 : Int32) q4 q5) q4) = (0 : Int32)) :
    MetFree l x (head1 (Jvm.Cond.code x code maxLocals ret :: ws) room_1) (fun a U => a = #[(.long q1), (.long q2), (.long q3), (.long q4), (.long q5), (.int p6)] ∧ Z.Warmed39 U.vm ∧ U.heap = h0) (fun _ _ _ _ _ => True) (fun _ U o U' => ∃ v L, o = .returned v ∧ own_Q1 n0 v U'.heap L ∧ FrameEnd U o U' L room_1.cells room_1.slots) := by
  refine MetFree.of_bodySF (plainFor_of_name pn_5) hisR ?_
  intro p e s m args below meth c s₁ Bd hml0 hP hK
  obtain ⟨rfl, hZ, hh⟩ := hP
  have hx := Bd.exec
  have hby := Bd.bytes
  have hml : c.maxLocals = 24 := hml0
  have hown : s.vm.findClass "com/example/bide/bide/QueueCountsEqualsPinLaw" = some m.cls := findClass_of_methodNamed Bd.named
  have hnm := (name_of_methodNamed Bd.named Bd.method).1
  have X0 : Stand p l e room_1 s m #[(.long q1), (.long q2), (.long q3), (.long q4), (.long q5), (.int p6)] below meth c s₁ [] 0 0 := Stand.of_body Bd
  have e0 : s₁.heap = h0 := by rw [← hh, Bd.state]; rfl
  have N0 := Fr.nil n0
  have pre0 : ∀ t, Steps p.tables e below (s₁.setTop (mkF m 0 #[.val (.long q1), .second, .val (.long q2), .second, .val (.long q3), .second, .val (.long q4), .second, .val (.long q5), .second, .val (.int p6), .unset, .unset, .unset, .unset, .unset, .unset, .unset, .unset, .unset, .unset, .unset, .unset, .unset] [])) t → Steps p.tables e below (s₁.setTop (entryFrame m #[(.long q1), (.long q2), (.long q3), (.long q4), (.long q5), (.int p6)] maxLocals)) t := fun t k => castTop (ef_0_JJJJJI m q1 q2 q3 q4 q5 p6) k
  obtain ⟨T1, h1, X1, e1, E1, A1, D1, -, st1⟩ := newO X0 hx hZ hown (hw _ (List.mem_of_getElem? (i := 0) rfl)) (hw _ (List.mem_of_getElem? (i := 1) rfl)) (hw _ (List.mem_of_getElem? (i := 2) rfl)) e0 (g := (mkF m 0 #[.val (.long q1), .second, .val (.long q2), .second, .val (.long q3), .second, .val (.long q4), .second, .val (.long q5), .second, .val (.int p6), .unset, .unset, .unset, .unset, .unset, .unset, .unset, .unset, .unset, .unset, .unset, .unset, .unset] [])) rfl (hb hby at_0) (by decide) (by decide)
  obtain ⟨b1, gq1⟩ : ∃ z, z = h0.size := ⟨_, rfl⟩
  rw [← gq1] at A1 D1 st1
  have g_b1 : n0 ≤ b1 := Nat.le_trans ((O0.1 ▸ O0.2.1) : n0 ≤ h0.size) (Nat.le_of_eq gq1.symm)
  have sz_b1 : h0.size ≤ b1 := Nat.le_trans (Keep.refl h0 []).1 (Nat.le_of_eq gq1.symm)
  have KK1 : Keep h0 h1 [] := (Keep.refl h0 []).ext E1
  have O1 := O0.ext E1
  have F_pending_b1 : Fld Z h1 b1 "com/example/bide/bide/QueueCounts" "pending" "J" (.long (0 : Int64)) := D1 (Or.inr (hw _ (List.mem_of_getElem? (i := 10) rfl))) (ty := .long) (by decide)
  have F_due_b1 : Fld Z h1 b1 "com/example/bide/bide/QueueCounts" "due" "J" (.long (0 : Int64)) := D1 (Or.inr (hw _ (List.mem_of_getElem? (i := 12) rfl))) (ty := .long) (by decide)
  have F_leased_b1 : Fld Z h1 b1 "com/example/bide/bide/QueueCounts" "leased" "J" (.long (0 : Int64)) := D1 (Or.inr (hw _ (List.mem_of_getElem? (i := 14) rfl))) (ty := .long) (by decide)
  have F_dead_b1 : Fld Z h1 b1 "com/example/bide/bide/QueueCounts" "dead" "J" (.long (0 : Int64)) := D1 (Or.inr (hw _ (List.mem_of_getElem? (i := 16) rfl))) (ty := .long) (by decide)
  obtain ⟨_, _, ⟨T2, L2, k2, n2⟩, -, X2, ⟨Lc2, hQ2, l2, y2, z2⟩, st2⟩ := X1.specialBack hx (y := (⟨"com/example/bide/bide/QueueCounts", "<init>", "(JJJJ)V"⟩ : MethodName)) rfl hown (mvT hZ (hw _ (List.mem_of_getElem? (i := 3) rfl))) (mvT hZ (hw _ (List.mem_of_getElem? (i := 4) rfl))) (mvT hZ (hw _ (List.mem_of_getElem? (i := 5) rfl))) (by decide) (backOf (W := 1) (rm1_0 l Z a0 hw b1 q1 q2 q3 q4 h1 n0 O1 A1 F_pending_b1 F_due_b1 F_leased_b1 F_dead_b1 g_b1) hZ (hw _ (List.mem_of_getElem? (i := 5) rfl)) (hw _ (List.mem_of_getElem? (i := 2) rfl)) (by decide) (by decide)) (g := (mkF m 10 #[.val (.long q1), .second, .val (.long q2), .second, .val (.long q3), .second, .val (.long q4), .second, .val (.long q5), .second, .val (.int p6), .unset, .unset, .unset, .unset, .unset, .unset, .unset, .unset, .unset, .unset, .unset, .unset, .unset] [(.long q4), (.long q3), (.long q2), (.long q1), (.ref b1), (.ref b1)])) rfl (by rw [hml]; rfl) (Steps.refl _) (a := b1) (argsL := [(.long q1), (.long q2), (.long q3), (.long q4)]) (rest := [(.ref b1)]) (lenOf pd_2 rfl) rfl (by show 2 * 0 + _ ≤ _; exact Nat.le_of_eq rfl) (hb hby at_10) (fun _ _ => ⟨rfl, e1, (by decide : 1 + 0 ≤ _), (by decide : 4 + 0 ≤ _)⟩)
  dsimp only [Pt.U, Pt.locs, Pt.cells, Pt.slots] at X2 l2 y2 z2 st2 hQ2
  subst l2 y2 z2
  obtain ⟨rfl, N2q, K2, f2_0, f2_1, f2_2, f2_3⟩ := hQ2
  have KK2 : Keep h0 T2.heap [] := KK1.trans K2 (allS (Or.inr sz_b1) all0)
  have O2 := O1.keep K2 (allS g_b1 all0)
  have N2 := Fr.app N0 N2q
  have dm3 : ∀ target, Steps p.tables e below (T2.setTop (mkF m 37 #[.val (.long q1), .second, .val (.long q2), .second, .val (.long q3), .second, .val (.long q4), .second, .val (.long q5), .second, .val (.int p6), .val (.ref b1), .val (.int (p6 &&& (15 : Int32))), .unset, .unset, .unset, .unset, .unset, .unset, .unset, .unset, .unset, .unset, .unset] [(.long (own_b p6 (1 : Int32) q1 q5))])) target → Steps p.tables e below (T2.setTop (mkF m 26 #[.val (.long q1), .second, .val (.long q2), .second, .val (.long q3), .second, .val (.long q4), .second, .val (.long q5), .second, .val (.int p6), .val (.ref b1), .val (.int (p6 &&& (15 : Int32))), .unset, .unset, .unset, .unset, .unset, .unset, .unset, .unset, .unset, .unset, .unset] [(.int ((p6 &&& (15 : Int32)) &&& (1 : Int32)))])) target := by
    intro target kt
    by_cases hdb : ((p6 &&& (15 : Int32)) &&& (1 : Int32)) = (0 : Int32)
    · rw [own_b_pos hdb] at kt
      show Steps p.tables e below (T2.setTop (mkF m 26 #[.val (.long q1), .second, .val (.long q2), .second, .val (.long q3), .second, .val (.long q4), .second, .val (.long q5), .second, .val (.int p6), .val (.ref b1), .val (.int (p6 &&& (15 : Int32))), .unset, .unset, .unset, .unset, .unset, .unset, .unset, .unset, .unset, .unset, .unset] [(.int ((p6 &&& (15 : Int32)) &&& (1 : Int32)))])) _
      refine XS.ifYes X2.here hx rfl (pc0 := 26) (pc' := 36) rfl (hb hby at_26) rfl ((if0 _ _).trans (teq hdb).1) (by decide) (by decide) ?_
      show Steps p.tables e below (T2.setTop (mkF m 36 #[.val (.long q1), .second, .val (.long q2), .second, .val (.long q3), .second, .val (.long q4), .second, .val (.long q5), .second, .val (.int p6), .val (.ref b1), .val (.int (p6 &&& (15 : Int32))), .unset, .unset, .unset, .unset, .unset, .unset, .unset, .unset, .unset, .unset, .unset] [])) _
      refine XS.lloadN X2.here hx rfl (hb hby at_36) rfl ?_
      exact kt
    · rw [own_b_neg hdb] at kt
      show Steps p.tables e below (T2.setTop (mkF m 26 #[.val (.long q1), .second, .val (.long q2), .second, .val (.long q3), .second, .val (.long q4), .second, .val (.long q5), .second, .val (.int p6), .val (.ref b1), .val (.int (p6 &&& (15 : Int32))), .unset, .unset, .unset, .unset, .unset, .unset, .unset, .unset, .unset, .unset, .unset] [(.int ((p6 &&& (15 : Int32)) &&& (1 : Int32)))])) _
      refine XS.ifNo X2.here hx rfl (hb hby at_26) rfl ((if0 _ _).trans (feq hdb).1) ?_
      show Steps p.tables e below (T2.setTop (mkF m 29 #[.val (.long q1), .second, .val (.long q2), .second, .val (.long q3), .second, .val (.long q4), .second, .val (.long q5), .second, .val (.int p6), .val (.ref b1), .val (.int (p6 &&& (15 : Int32))), .unset, .unset, .unset, .unset, .unset, .unset, .unset, .unset, .unset, .unset, .unset] [])) _
      refine XS.lloadN X2.here hx rfl (hb hby at_29) rfl ?_
      show Steps p.tables e below (T2.setTop (mkF m 30 #[.val (.long q1), .second, .val (.long q2), .second, .val (.long q3), .second, .val (.long q4), .second, .val (.long q5), .second, .val (.int p6), .val (.ref b1), .val (.int (p6 &&& (15 : Int32))), .unset, .unset, .unset, .unset, .unset, .unset, .unset, .unset, .unset, .unset, .unset] [(.long q1)])) _
      refine XS.lload X2.here hx rfl (hb hby at_30) rfl ?_
      show Steps p.tables e below (T2.setTop (mkF m 32 #[.val (.long q1), .second, .val (.long q2), .second, .val (.long q3), .second, .val (.long q4), .second, .val (.long q5), .second, .val (.int p6), .val (.ref b1), .val (.int (p6 &&& (15 : Int32))), .unset, .unset, .unset, .unset, .unset, .unset, .unset, .unset, .unset, .unset, .unset] [(.long q5), (.long q1)])) _
      refine XS.ladd X2.here hx rfl (hb hby at_32) rfl ?_
      show Steps p.tables e below (T2.setTop (mkF m 33 #[.val (.long q1), .second, .val (.long q2), .second, .val (.long q3), .second, .val (.long q4), .second, .val (.long q5), .second, .val (.int p6), .val (.ref b1), .val (.int (p6 &&& (15 : Int32))), .unset, .unset, .unset, .unset, .unset, .unset, .unset, .unset, .unset, .unset, .unset] [(.long (q1 + q5))])) _
      refine XS.goto X2.here hx rfl (pc0 := 33) (pc' := 37) rfl (hb hby at_33) (by decide) (by decide) ?_
      exact kt
  have dm4 : ∀ target, Steps p.tables e below (T2.setTop (mkF m 54 #[.val (.long q1), .second, .val (.long q2), .second, .val (.long q3), .second, .val (.long q4), .second, .val (.long q5), .second, .val (.int p6), .val (.ref b1), .val (.int (p6 &&& (15 : Int32))), .val (.long (own_b p6 (1 : Int32) q1 q5)), .second, .unset, .unset, .unset, .unset, .unset, .unset, .unset, .unset, .unset] [(.long (own_b p6 (2 : Int32) q2 q5))])) target → Steps p.tables e below (T2.setTop (mkF m 43 #[.val (.long q1), .second, .val (.long q2), .second, .val (.long q3), .second, .val (.long q4), .second, .val (.long q5), .second, .val (.int p6), .val (.ref b1), .val (.int (p6 &&& (15 : Int32))), .val (.long (own_b p6 (1 : Int32) q1 q5)), .second, .unset, .unset, .unset, .unset, .unset, .unset, .unset, .unset, .unset] [(.int ((p6 &&& (15 : Int32)) &&& (2 : Int32)))])) target := by
    intro target kt
    by_cases hdb : ((p6 &&& (15 : Int32)) &&& (2 : Int32)) = (0 : Int32)
    · rw [own_b_pos hdb] at kt
      show Steps p.tables e below (T2.setTop (mkF m 43 #[.val (.long q1), .second, .val (.long q2), .second, .val (.long q3), .second, .val (.long q4), .second, .val (.long q5), .second, .val (.int p6), .val (.ref b1), .val (.int (p6 &&& (15 : Int32))), .val (.long (own_b p6 (1 : Int32) q1 q5)), .second, .unset, .unset, .unset, .unset, .unset, .unset, .unset, .unset, .unset] [(.int ((p6 &&& (15 : Int32)) &&& (2 : Int32)))])) _
      refine XS.ifYes X2.here hx rfl (pc0 := 43) (pc' := 53) rfl (hb hby at_43) rfl ((if0 _ _).trans (teq hdb).1) (by decide) (by decide) ?_
      show Steps p.tables e below (T2.setTop (mkF m 53 #[.val (.long q1), .second, .val (.long q2), .second, .val (.long q3), .second, .val (.long q4), .second, .val (.long q5), .second, .val (.int p6), .val (.ref b1), .val (.int (p6 &&& (15 : Int32))), .val (.long (own_b p6 (1 : Int32) q1 q5)), .second, .unset, .unset, .unset, .unset, .unset, .unset, .unset, .unset, .unset] [])) _
      refine XS.lloadN X2.here hx rfl (hb hby at_53) rfl ?_
      exact kt
    · rw [own_b_neg hdb] at kt
      show Steps p.tables e below (T2.setTop (mkF m 43 #[.val (.long q1), .second, .val (.long q2), .second, .val (.long q3), .second, .val (.long q4), .second, .val (.long q5), .second, .val (.int p6), .val (.ref b1), .val (.int (p6 &&& (15 : Int32))), .val (.long (own_b p6 (1 : Int32) q1 q5)), .second, .unset, .unset, .unset, .unset, .unset, .unset, .unset, .unset, .unset] [(.int ((p6 &&& (15 : Int32)) &&& (2 : Int32)))])) _
      refine XS.ifNo X2.here hx rfl (hb hby at_43) rfl ((if0 _ _).trans (feq hdb).1) ?_
      show Steps p.tables e below (T2.setTop (mkF m 46 #[.val (.long q1), .second, .val (.long q2), .second, .val (.long q3), .second, .val (.long q4), .second, .val (.long q5), .second, .val (.int p6), .val (.ref b1), .val (.int (p6 &&& (15 : Int32))), .val (.long (own_b p6 (1 : Int32) q1 q5)), .second, .unset, .unset, .unset, .unset, .unset, .unset, .unset, .unset, .unset] [])) _
      refine XS.lloadN X2.here hx rfl (hb hby at_46) rfl ?_
      show Steps p.tables e below (T2.setTop (mkF m 47 #[.val (.long q1), .second, .val (.long q2), .second, .val (.long q3), .second, .val (.long q4), .second, .val (.long q5), .second, .val (.int p6), .val (.ref b1), .val (.int (p6 &&& (15 : Int32))), .val (.long (own_b p6 (1 : Int32) q1 q5)), .second, .unset, .unset, .unset, .unset, .unset, .unset, .unset, .unset, .unset] [(.long q2)])) _
      refine XS.lload X2.here hx rfl (hb hby at_47) rfl ?_
      show Steps p.tables e below (T2.setTop (mkF m 49 #[.val (.long q1), .second, .val (.long q2), .second, .val (.long q3), .second, .val (.long q4), .second, .val (.long q5), .second, .val (.int p6), .val (.ref b1), .val (.int (p6 &&& (15 : Int32))), .val (.long (own_b p6 (1 : Int32) q1 q5)), .second, .unset, .unset, .unset, .unset, .unset, .unset, .unset, .unset, .unset] [(.long q5), (.long q2)])) _
      refine XS.ladd X2.here hx rfl (hb hby at_49) rfl ?_
      show Steps p.tables e below (T2.setTop (mkF m 50 #[.val (.long q1), .second, .val (.long q2), .second, .val (.long q3), .second, .val (.long q4), .second, .val (.long q5), .second, .val (.int p6), .val (.ref b1), .val (.int (p6 &&& (15 : Int32))), .val (.long (own_b p6 (1 : Int32) q1 q5)), .second, .unset, .unset, .unset, .unset, .unset, .unset, .unset, .unset, .unset] [(.long (q2 + q5))])) _
      refine XS.goto X2.here hx rfl (pc0 := 50) (pc' := 54) rfl (hb hby at_50) (by decide) (by decide) ?_
      exact kt
  have dm5 : ∀ target, Steps p.tables e below (T2.setTop (mkF m 73 #[.val (.long q1), .second, .val (.long q2), .second, .val (.long q3), .second, .val (.long q4), .second, .val (.long q5), .second, .val (.int p6), .val (.ref b1), .val (.int (p6 &&& (15 : Int32))), .val (.long (own_b p6 (1 : Int32) q1 q5)), .second, .val (.long (own_b p6 (2 : Int32) q2 q5)), .second, .unset, .unset, .unset, .unset, .unset, .unset, .unset] [(.long (own_b p6 (4 : Int32) q3 q5))])) target → Steps p.tables e below (T2.setTop (mkF m 60 #[.val (.long q1), .second, .val (.long q2), .second, .val (.long q3), .second, .val (.long q4), .second, .val (.long q5), .second, .val (.int p6), .val (.ref b1), .val (.int (p6 &&& (15 : Int32))), .val (.long (own_b p6 (1 : Int32) q1 q5)), .second, .val (.long (own_b p6 (2 : Int32) q2 q5)), .second, .unset, .unset, .unset, .unset, .unset, .unset, .unset] [(.int ((p6 &&& (15 : Int32)) &&& (4 : Int32)))])) target := by
    intro target kt
    by_cases hdb : ((p6 &&& (15 : Int32)) &&& (4 : Int32)) = (0 : Int32)
    · rw [own_b_pos hdb] at kt
      show Steps p.tables e below (T2.setTop (mkF m 60 #[.val (.long q1), .second, .val (.long q2), .second, .val (.long q3), .second, .val (.long q4), .second, .val (.long q5), .second, .val (.int p6), .val (.ref b1), .val (.int (p6 &&& (15 : Int32))), .val (.long (own_b p6 (1 : Int32) q1 q5)), .second, .val (.long (own_b p6 (2 : Int32) q2 q5)), .second, .unset, .unset, .unset, .unset, .unset, .unset, .unset] [(.int ((p6 &&& (15 : Int32)) &&& (4 : Int32)))])) _
      refine XS.ifYes X2.here hx rfl (pc0 := 60) (pc' := 71) rfl (hb hby at_60) rfl ((if0 _ _).trans (teq hdb).1) (by decide) (by decide) ?_
      show Steps p.tables e below (T2.setTop (mkF m 71 #[.val (.long q1), .second, .val (.long q2), .second, .val (.long q3), .second, .val (.long q4), .second, .val (.long q5), .second, .val (.int p6), .val (.ref b1), .val (.int (p6 &&& (15 : Int32))), .val (.long (own_b p6 (1 : Int32) q1 q5)), .second, .val (.long (own_b p6 (2 : Int32) q2 q5)), .second, .unset, .unset, .unset, .unset, .unset, .unset, .unset] [])) _
      refine XS.lload X2.here hx rfl (hb hby at_71) rfl ?_
      exact kt
    · rw [own_b_neg hdb] at kt
      show Steps p.tables e below (T2.setTop (mkF m 60 #[.val (.long q1), .second, .val (.long q2), .second, .val (.long q3), .second, .val (.long q4), .second, .val (.long q5), .second, .val (.int p6), .val (.ref b1), .val (.int (p6 &&& (15 : Int32))), .val (.long (own_b p6 (1 : Int32) q1 q5)), .second, .val (.long (own_b p6 (2 : Int32) q2 q5)), .second, .unset, .unset, .unset, .unset, .unset, .unset, .unset] [(.int ((p6 &&& (15 : Int32)) &&& (4 : Int32)))])) _
      refine XS.ifNo X2.here hx rfl (hb hby at_60) rfl ((if0 _ _).trans (feq hdb).1) ?_
      show Steps p.tables e below (T2.setTop (mkF m 63 #[.val (.long q1), .second, .val (.long q2), .second, .val (.long q3), .second, .val (.long q4), .second, .val (.long q5), .second, .val (.int p6), .val (.ref b1), .val (.int (p6 &&& (15 : Int32))), .val (.long (own_b p6 (1 : Int32) q1 q5)), .second, .val (.long (own_b p6 (2 : Int32) q2 q5)), .second, .unset, .unset, .unset, .unset, .unset, .unset, .unset] [])) _
      refine XS.lload X2.here hx rfl (hb hby at_63) rfl ?_
      show Steps p.tables e below (T2.setTop (mkF m 65 #[.val (.long q1), .second, .val (.long q2), .second, .val (.long q3), .second, .val (.long q4), .second, .val (.long q5), .second, .val (.int p6), .val (.ref b1), .val (.int (p6 &&& (15 : Int32))), .val (.long (own_b p6 (1 : Int32) q1 q5)), .second, .val (.long (own_b p6 (2 : Int32) q2 q5)), .second, .unset, .unset, .unset, .unset, .unset, .unset, .unset] [(.long q3)])) _
      refine XS.lload X2.here hx rfl (hb hby at_65) rfl ?_
      show Steps p.tables e below (T2.setTop (mkF m 67 #[.val (.long q1), .second, .val (.long q2), .second, .val (.long q3), .second, .val (.long q4), .second, .val (.long q5), .second, .val (.int p6), .val (.ref b1), .val (.int (p6 &&& (15 : Int32))), .val (.long (own_b p6 (1 : Int32) q1 q5)), .second, .val (.long (own_b p6 (2 : Int32) q2 q5)), .second, .unset, .unset, .unset, .unset, .unset, .unset, .unset] [(.long q5), (.long q3)])) _
      refine XS.ladd X2.here hx rfl (hb hby at_67) rfl ?_
      show Steps p.tables e below (T2.setTop (mkF m 68 #[.val (.long q1), .second, .val (.long q2), .second, .val (.long q3), .second, .val (.long q4), .second, .val (.long q5), .second, .val (.int p6), .val (.ref b1), .val (.int (p6 &&& (15 : Int32))), .val (.long (own_b p6 (1 : Int32) q1 q5)), .second, .val (.long (own_b p6 (2 : Int32) q2 q5)), .second, .unset, .unset, .unset, .unset, .unset, .unset, .unset] [(.long (q3 + q5))])) _
      refine XS.goto X2.here hx rfl (pc0 := 68) (pc' := 73) rfl (hb hby at_68) (by decide) (by decide) ?_
      exact kt
  have dm6 : ∀ target, Steps p.tables e below (T2.setTop (mkF m 93 #[.val (.long q1), .second, .val (.long q2), .second, .val (.long q3), .second, .val (.long q4), .second, .val (.long q5), .second, .val (.int p6), .val (.ref b1), .val (.int (p6 &&& (15 : Int32))), .val (.long (own_b p6 (1 : Int32) q1 q5)), .second, .val (.long (own_b p6 (2 : Int32) q2 q5)), .second, .val (.long (own_b p6 (4 : Int32) q3 q5)), .second, .unset, .unset, .unset, .unset, .unset] [(.long (own_b p6 (8 : Int32) q4 q5))])) target → Steps p.tables e below (T2.setTop (mkF m 80 #[.val (.long q1), .second, .val (.long q2), .second, .val (.long q3), .second, .val (.long q4), .second, .val (.long q5), .second, .val (.int p6), .val (.ref b1), .val (.int (p6 &&& (15 : Int32))), .val (.long (own_b p6 (1 : Int32) q1 q5)), .second, .val (.long (own_b p6 (2 : Int32) q2 q5)), .second, .val (.long (own_b p6 (4 : Int32) q3 q5)), .second, .unset, .unset, .unset, .unset, .unset] [(.int ((p6 &&& (15 : Int32)) &&& (8 : Int32)))])) target := by
    intro target kt
    by_cases hdb : ((p6 &&& (15 : Int32)) &&& (8 : Int32)) = (0 : Int32)
    · rw [own_b_pos hdb] at kt
      show Steps p.tables e below (T2.setTop (mkF m 80 #[.val (.long q1), .second, .val (.long q2), .second, .val (.long q3), .second, .val (.long q4), .second, .val (.long q5), .second, .val (.int p6), .val (.ref b1), .val (.int (p6 &&& (15 : Int32))), .val (.long (own_b p6 (1 : Int32) q1 q5)), .second, .val (.long (own_b p6 (2 : Int32) q2 q5)), .second, .val (.long (own_b p6 (4 : Int32) q3 q5)), .second, .unset, .unset, .unset, .unset, .unset] [(.int ((p6 &&& (15 : Int32)) &&& (8 : Int32)))])) _
      refine XS.ifYes X2.here hx rfl (pc0 := 80) (pc' := 91) rfl (hb hby at_80) rfl ((if0 _ _).trans (teq hdb).1) (by decide) (by decide) ?_
      show Steps p.tables e below (T2.setTop (mkF m 91 #[.val (.long q1), .second, .val (.long q2), .second, .val (.long q3), .second, .val (.long q4), .second, .val (.long q5), .second, .val (.int p6), .val (.ref b1), .val (.int (p6 &&& (15 : Int32))), .val (.long (own_b p6 (1 : Int32) q1 q5)), .second, .val (.long (own_b p6 (2 : Int32) q2 q5)), .second, .val (.long (own_b p6 (4 : Int32) q3 q5)), .second, .unset, .unset, .unset, .unset, .unset] [])) _
      refine XS.lload X2.here hx rfl (hb hby at_91) rfl ?_
      exact kt
    · rw [own_b_neg hdb] at kt
      show Steps p.tables e below (T2.setTop (mkF m 80 #[.val (.long q1), .second, .val (.long q2), .second, .val (.long q3), .second, .val (.long q4), .second, .val (.long q5), .second, .val (.int p6), .val (.ref b1), .val (.int (p6 &&& (15 : Int32))), .val (.long (own_b p6 (1 : Int32) q1 q5)), .second, .val (.long (own_b p6 (2 : Int32) q2 q5)), .second, .val (.long (own_b p6 (4 : Int32) q3 q5)), .second, .unset, .unset, .unset, .unset, .unset] [(.int ((p6 &&& (15 : Int32)) &&& (8 : Int32)))])) _
      refine XS.ifNo X2.here hx rfl (hb hby at_80) rfl ((if0 _ _).trans (feq hdb).1) ?_
      show Steps p.tables e below (T2.setTop (mkF m 83 #[.val (.long q1), .second, .val (.long q2), .second, .val (.long q3), .second, .val (.long q4), .second, .val (.long q5), .second, .val (.int p6), .val (.ref b1), .val (.int (p6 &&& (15 : Int32))), .val (.long (own_b p6 (1 : Int32) q1 q5)), .second, .val (.long (own_b p6 (2 : Int32) q2 q5)), .second, .val (.long (own_b p6 (4 : Int32) q3 q5)), .second, .unset, .unset, .unset, .unset, .unset] [])) _
      refine XS.lload X2.here hx rfl (hb hby at_83) rfl ?_
      show Steps p.tables e below (T2.setTop (mkF m 85 #[.val (.long q1), .second, .val (.long q2), .second, .val (.long q3), .second, .val (.long q4), .second, .val (.long q5), .second, .val (.int p6), .val (.ref b1), .val (.int (p6 &&& (15 : Int32))), .val (.long (own_b p6 (1 : Int32) q1 q5)), .second, .val (.long (own_b p6 (2 : Int32) q2 q5)), .second, .val (.long (own_b p6 (4 : Int32) q3 q5)), .second, .unset, .unset, .unset, .unset, .unset] [(.long q4)])) _
      refine XS.lload X2.here hx rfl (hb hby at_85) rfl ?_
      show Steps p.tables e below (T2.setTop (mkF m 87 #[.val (.long q1), .second, .val (.long q2), .second, .val (.long q3), .second, .val (.long q4), .second, .val (.long q5), .second, .val (.int p6), .val (.ref b1), .val (.int (p6 &&& (15 : Int32))), .val (.long (own_b p6 (1 : Int32) q1 q5)), .second, .val (.long (own_b p6 (2 : Int32) q2 q5)), .second, .val (.long (own_b p6 (4 : Int32) q3 q5)), .second, .unset, .unset, .unset, .unset, .unset] [(.long q5), (.long q4)])) _
      refine XS.ladd X2.here hx rfl (hb hby at_87) rfl ?_
      show Steps p.tables e below (T2.setTop (mkF m 88 #[.val (.long q1), .second, .val (.long q2), .second, .val (.long q3), .second, .val (.long q4), .second, .val (.long q5), .second, .val (.int p6), .val (.ref b1), .val (.int (p6 &&& (15 : Int32))), .val (.long (own_b p6 (1 : Int32) q1 q5)), .second, .val (.long (own_b p6 (2 : Int32) q2 q5)), .second, .val (.long (own_b p6 (4 : Int32) q3 q5)), .second, .unset, .unset, .unset, .unset, .unset] [(.long (q4 + q5))])) _
      refine XS.goto X2.here hx rfl (pc0 := 88) (pc' := 93) rfl (hb hby at_88) (by decide) (by decide) ?_
      exact kt
  obtain ⟨T7, h7, X7, e7, E7, A7, D7, -, st7⟩ := newO X2 hx hZ hown (hw _ (List.mem_of_getElem? (i := 0) rfl)) (hw _ (List.mem_of_getElem? (i := 1) rfl)) (hw _ (List.mem_of_getElem? (i := 2) rfl)) rfl (g := (mkF m 95 #[.val (.long q1), .second, .val (.long q2), .second, .val (.long q3), .second, .val (.long q4), .second, .val (.long q5), .second, .val (.int p6), .val (.ref b1), .val (.int (p6 &&& (15 : Int32))), .val (.long (own_b p6 (1 : Int32) q1 q5)), .second, .val (.long (own_b p6 (2 : Int32) q2 q5)), .second, .val (.long (own_b p6 (4 : Int32) q3 q5)), .second, .val (.long (own_b p6 (8 : Int32) q4 q5)), .second, .unset, .unset, .unset] [])) rfl (hb hby at_95) (by decide) (by decide)
  obtain ⟨b7, gq7⟩ : ∃ z, z = T2.heap.size := ⟨_, rfl⟩
  rw [← gq7] at A7 D7 st7
  have g_b7 : n0 ≤ b7 := Nat.le_trans ((O2.1 ▸ O2.2.1) : n0 ≤ T2.heap.size) (Nat.le_of_eq gq7.symm)
  have sz_b7 : h0.size ≤ b7 := Nat.le_trans KK2.1 (Nat.le_of_eq gq7.symm)
  have KK7 : Keep h0 h7 [] := KK2.ext E7
  have O7 := O2.ext E7
  have F_pending_b7 : Fld Z h7 b7 "com/example/bide/bide/QueueCounts" "pending" "J" (.long (0 : Int64)) := D7 (Or.inr (hw _ (List.mem_of_getElem? (i := 10) rfl))) (ty := .long) (by decide)
  have F_due_b7 : Fld Z h7 b7 "com/example/bide/bide/QueueCounts" "due" "J" (.long (0 : Int64)) := D7 (Or.inr (hw _ (List.mem_of_getElem? (i := 12) rfl))) (ty := .long) (by decide)
  have F_leased_b7 : Fld Z h7 b7 "com/example/bide/bide/QueueCounts" "leased" "J" (.long (0 : Int64)) := D7 (Or.inr (hw _ (List.mem_of_getElem? (i := 14) rfl))) (ty := .long) (by decide)
  have F_dead_b7 : Fld Z h7 b7 "com/example/bide/bide/QueueCounts" "dead" "J" (.long (0 : Int64)) := D7 (Or.inr (hw _ (List.mem_of_getElem? (i := 16) rfl))) (ty := .long) (by decide)
  obtain ⟨_, _, ⟨T8, L8, k8, n8⟩, -, X8, ⟨Lc8, hQ8, l8, y8, z8⟩, st8⟩ := X7.specialBack hx (y := (⟨"com/example/bide/bide/QueueCounts", "<init>", "(JJJJ)V"⟩ : MethodName)) rfl hown (mvT hZ (hw _ (List.mem_of_getElem? (i := 3) rfl))) (mvT hZ (hw _ (List.mem_of_getElem? (i := 4) rfl))) (mvT hZ (hw _ (List.mem_of_getElem? (i := 5) rfl))) (by decide) (backOf (W := 1) (rm1_0 l Z a0 hw b7 (own_b p6 (1 : Int32) q1 q5) (own_b p6 (2 : Int32) q2 q5) (own_b p6 (4 : Int32) q3 q5) (own_b p6 (8 : Int32) q4 q5) h7 n0 O7 A7 F_pending_b7 F_due_b7 F_leased_b7 F_dead_b7 g_b7) hZ (hw _ (List.mem_of_getElem? (i := 5) rfl)) (hw _ (List.mem_of_getElem? (i := 2) rfl)) (by decide) (by decide)) (g := (mkF m 107 #[.val (.long q1), .second, .val (.long q2), .second, .val (.long q3), .second, .val (.long q4), .second, .val (.long q5), .second, .val (.int p6), .val (.ref b1), .val (.int (p6 &&& (15 : Int32))), .val (.long (own_b p6 (1 : Int32) q1 q5)), .second, .val (.long (own_b p6 (2 : Int32) q2 q5)), .second, .val (.long (own_b p6 (4 : Int32) q3 q5)), .second, .val (.long (own_b p6 (8 : Int32) q4 q5)), .second, .unset, .unset, .unset] [(.long (own_b p6 (8 : Int32) q4 q5)), (.long (own_b p6 (4 : Int32) q3 q5)), (.long (own_b p6 (2 : Int32) q2 q5)), (.long (own_b p6 (1 : Int32) q1 q5)), (.ref b7), (.ref b7)])) rfl (by rw [hml]; rfl) (Steps.refl _) (a := b7) (argsL := [(.long (own_b p6 (1 : Int32) q1 q5)), (.long (own_b p6 (2 : Int32) q2 q5)), (.long (own_b p6 (4 : Int32) q3 q5)), (.long (own_b p6 (8 : Int32) q4 q5))]) (rest := [(.ref b7)]) (lenOf pd_2 rfl) rfl (by show 2 * 0 + _ ≤ _; exact Nat.le_of_eq rfl) (hb hby at_107) (fun _ _ => ⟨rfl, e7, (by decide : 2 + 0 ≤ _), (by decide : 8 + 0 ≤ _)⟩)
  dsimp only [Pt.U, Pt.locs, Pt.cells, Pt.slots] at X8 l8 y8 z8 st8 hQ8
  subst l8 y8 z8
  obtain ⟨rfl, N8q, K8, f8_0, f8_1, f8_2, f8_3⟩ := hQ8
  have KK8 : Keep h0 T8.heap [] := KK7.trans K8 (allS (Or.inr sz_b7) all0)
  have O8 := O7.keep K8 (allS g_b7 all0)
  have N8 := Fr.app N2 N8q
  have nz9 : b1 ≠ b7 := (Nat.ne_of_lt (Nat.lt_of_lt_of_le (A1.keep K2).lt (Nat.le_of_eq gq7.symm)))
  obtain ⟨cq10, kq10, q10a, q10b, q10c⟩ := isOf hZ rfl (((A1.keep K2).ext E7).keep K8)
  obtain ⟨_, _, ⟨T10, L10, k10, n10⟩, -, X10, ⟨Lc10, hQ10, l10, y10, z10⟩, st10⟩ := X8.virtualBack hx (y := (⟨"com/example/bide/bide/QueueCounts", "equals", "(Ljava/lang/Object;)Z"⟩ : MethodName)) (z := (⟨"com/example/bide/bide/QueueCounts", "equals", "(Ljava/lang/Object;)Z"⟩ : MethodName)) hown (mvT hZ (hw _ (List.mem_of_getElem? (i := 17) rfl))) (mvT hZ (hw _ (List.mem_of_getElem? (i := 18) rfl))) (notFace_of_selects (args := #[]) (mvT hZ (hw _ (List.mem_of_getElem? (i := 20) rfl)))) (mvT hZ (hw _ (List.mem_of_getElem? (i := 20) rfl))) (mvT hZ (hw _ (List.mem_of_getElem? (i := 19) rfl))) (by decide) (backOf (W := 0) (rm3_0 l Z a0 hw b1 b7 q1 (own_b p6 (1 : Int32) q1 q5) q2 (own_b p6 (2 : Int32) q2 q5) q3 (own_b p6 (4 : Int32) q3 q5) q4 (own_b p6 (8 : Int32) q4 q5) T8.heap n0 O8 (A7.keep K8) ((f2_0.ext E7).keep K8 (ninS nz9 nin0)) f8_0 P3 ((f2_1.ext E7).keep K8 (ninS nz9 nin0)) f8_1 P4 ((f2_2.ext E7).keep K8 (ninS nz9 nin0)) f8_2 P5 ((f2_3.ext E7).keep K8 (ninS nz9 nin0)) f8_3 P6) hZ (hw _ (List.mem_of_getElem? (i := 21) rfl)) (hw _ (List.mem_of_getElem? (i := 2) rfl)) (by decide) (by decide)) q10a q10c (g := (mkF m 202 #[.val (.long q1), .second, .val (.long q2), .second, .val (.long q3), .second, .val (.long q4), .second, .val (.long q5), .second, .val (.int p6), .val (.ref b1), .val (.int (p6 &&& (15 : Int32))), .val (.long (own_b p6 (1 : Int32) q1 q5)), .second, .val (.long (own_b p6 (2 : Int32) q2 q5)), .second, .val (.long (own_b p6 (4 : Int32) q3 q5)), .second, .val (.long (own_b p6 (8 : Int32) q4 q5)), .second, .val (.ref b7), .val (.int (0 : Int32)), .val (.int (1 : Int32))] [(.ref b7), (.ref b1)])) rfl (by rw [hml]; rfl) (Steps.refl _) (argsL := [(.ref b7)]) (rest := []) (lenOf pd_4 rfl) rfl (by show 2 * 0 + _ ≤ _; exact Nat.le_of_eq rfl) (hb hby at_202) (fun _ _ => ⟨rfl, rfl, (by decide : 2 + 0 ≤ _), (by decide : 8 + 0 ≤ _)⟩)
  dsimp only [Pt.U, Pt.locs, Pt.cells, Pt.slots] at X10 l10 y10 z10 st10 hQ10
  subst l10 y10 z10
  obtain ⟨rfl, N10q, e10⟩ := hQ10
  have N10 := Fr.app N8 N10q
  obtain ⟨cq11, kq11, q11a, q11b, q11c⟩ := isOf hZ e10 (A7.keep K8)
  obtain ⟨_, _, ⟨T11, L11, k11, n11⟩, -, X11, ⟨Lc11, hQ11, l11, y11, z11⟩, st11⟩ := X10.virtualBack hx (y := (⟨"com/example/bide/bide/QueueCounts", "equals", "(Ljava/lang/Object;)Z"⟩ : MethodName)) (z := (⟨"com/example/bide/bide/QueueCounts", "equals", "(Ljava/lang/Object;)Z"⟩ : MethodName)) hown (mvT hZ (hw _ (List.mem_of_getElem? (i := 17) rfl))) (mvT hZ (hw _ (List.mem_of_getElem? (i := 18) rfl))) (notFace_of_selects (args := #[]) (mvT hZ (hw _ (List.mem_of_getElem? (i := 20) rfl)))) (mvT hZ (hw _ (List.mem_of_getElem? (i := 20) rfl))) (mvT hZ (hw _ (List.mem_of_getElem? (i := 19) rfl))) (by decide) (backOf (W := 0) (rm3_0 l Z a0 hw b7 b1 (own_b p6 (1 : Int32) q1 q5) q1 (own_b p6 (2 : Int32) q2 q5) q2 (own_b p6 (4 : Int32) q3 q5) q3 (own_b p6 (8 : Int32) q4 q5) q4 T8.heap n0 O8 (((A1.keep K2).ext E7).keep K8) f8_0 ((f2_0.ext E7).keep K8 (ninS nz9 nin0)) P7 f8_1 ((f2_1.ext E7).keep K8 (ninS nz9 nin0)) P8 f8_2 ((f2_2.ext E7).keep K8 (ninS nz9 nin0)) P9 f8_3 ((f2_3.ext E7).keep K8 (ninS nz9 nin0)) P10) hZ (hw _ (List.mem_of_getElem? (i := 21) rfl)) (hw _ (List.mem_of_getElem? (i := 2) rfl)) (by decide) (by decide)) q11a q11c (g := (mkF m 214 #[.val (.long q1), .second, .val (.long q2), .second, .val (.long q3), .second, .val (.long q4), .second, .val (.long q5), .second, .val (.int p6), .val (.ref b1), .val (.int (p6 &&& (15 : Int32))), .val (.long (own_b p6 (1 : Int32) q1 q5)), .second, .val (.long (own_b p6 (2 : Int32) q2 q5)), .second, .val (.long (own_b p6 (4 : Int32) q3 q5)), .second, .val (.long (own_b p6 (8 : Int32) q4 q5)), .second, .val (.ref b7), .val (.int (0 : Int32)), .val (.int (1 : Int32))] [(.ref b1), (.ref b7)])) rfl (by rw [hml]; rfl) (Steps.refl _) (argsL := [(.ref b1)]) (rest := []) (lenOf pd_4 rfl) rfl (by show 2 * 0 + _ ≤ _; exact Nat.le_of_eq rfl) (hb hby at_214) (fun _ _ => ⟨rfl, e10, (by decide : 2 + 0 ≤ _), (by decide : 8 + 0 ≤ _)⟩)
  dsimp only [Pt.U, Pt.locs, Pt.cells, Pt.slots] at X11 l11 y11 z11 st11 hQ11
  subst l11 y11 z11
  obtain ⟨rfl, N11q, e11⟩ := hQ11
  have N11 := Fr.app N10 N11q
  obtain ⟨fs, hr, hrun, hended, hW, hsame⟩ := X11.leave (v := some (.int (1 : Int32))) (fun h => by rw [Bd.returns] at h; cases h)
  refine ⟨_, _, pre0 _ ?_, hrun, hended, _, _, rfl, ?_, ⟨_, rfl⟩, hW, hsame.mono (by decide) (by decide)⟩
  · show Steps p.tables e below (s₁.setTop (mkF m 0 #[.val (.long q1), .second, .val (.long q2), .second, .val (.long q3), .second, .val (.long q4), .second, .val (.long q5), .second, .val (.int p6), .unset, .unset, .unset, .unset, .unset, .unset, .unset, .unset, .unset, .unset, .unset, .unset, .unset] [])) _
    refine st1 _ ?_
    show Steps p.tables e below (T1.setTop (mkF m 3 #[.val (.long q1), .second, .val (.long q2), .second, .val (.long q3), .second, .val (.long q4), .second, .val (.long q5), .second, .val (.int p6), .unset, .unset, .unset, .unset, .unset, .unset, .unset, .unset, .unset, .unset, .unset, .unset, .unset] [(.ref b1)])) _
    refine XS.dup X1.here hx rfl (hb hby at_3) rfl rfl ?_
    show Steps p.tables e below (T1.setTop (mkF m 4 #[.val (.long q1), .second, .val (.long q2), .second, .val (.long q3), .second, .val (.long q4), .second, .val (.long q5), .second, .val (.int p6), .unset, .unset, .unset, .unset, .unset, .unset, .unset, .unset, .unset, .unset, .unset, .unset, .unset] [(.ref b1), (.ref b1)])) _
    refine XS.lloadN X1.here hx rfl (hb hby at_4) rfl ?_
    show Steps p.tables e below (T1.setTop (mkF m 5 #[.val (.long q1), .second, .val (.long q2), .second, .val (.long q3), .second, .val (.long q4), .second, .val (.long q5), .second, .val (.int p6), .unset, .unset, .unset, .unset, .unset, .unset, .unset, .unset, .unset, .unset, .unset, .unset, .unset] [(.long q1), (.ref b1), (.ref b1)])) _
    refine XS.lloadN X1.here hx rfl (hb hby at_5) rfl ?_
    show Steps p.tables e below (T1.setTop (mkF m 6 #[.val (.long q1), .second, .val (.long q2), .second, .val (.long q3), .second, .val (.long q4), .second, .val (.long q5), .second, .val (.int p6), .unset, .unset, .unset, .unset, .unset, .unset, .unset, .unset, .unset, .unset, .unset, .unset, .unset] [(.long q2), (.long q1), (.ref b1), (.ref b1)])) _
    refine XS.lload X1.here hx rfl (hb hby at_6) rfl ?_
    show Steps p.tables e below (T1.setTop (mkF m 8 #[.val (.long q1), .second, .val (.long q2), .second, .val (.long q3), .second, .val (.long q4), .second, .val (.long q5), .second, .val (.int p6), .unset, .unset, .unset, .unset, .unset, .unset, .unset, .unset, .unset, .unset, .unset, .unset, .unset] [(.long q3), (.long q2), (.long q1), (.ref b1), (.ref b1)])) _
    refine XS.lload X1.here hx rfl (hb hby at_8) rfl ?_
    show Steps p.tables e below (T1.setTop (mkF m 10 #[.val (.long q1), .second, .val (.long q2), .second, .val (.long q3), .second, .val (.long q4), .second, .val (.long q5), .second, .val (.int p6), .unset, .unset, .unset, .unset, .unset, .unset, .unset, .unset, .unset, .unset, .unset, .unset, .unset] [(.long q4), (.long q3), (.long q2), (.long q1), (.ref b1), (.ref b1)])) _
    refine st2.trans ?_
    show Steps p.tables e below (T2.setTop (mkF m 13 #[.val (.long q1), .second, .val (.long q2), .second, .val (.long q3), .second, .val (.long q4), .second, .val (.long q5), .second, .val (.int p6), .unset, .unset, .unset, .unset, .unset, .unset, .unset, .unset, .unset, .unset, .unset, .unset, .unset] [(.ref b1)])) _
    refine XS.astore X2.here hx rfl (hb hby at_13) rfl rfl (l' := #[.val (.long q1), .second, .val (.long q2), .second, .val (.long q3), .second, .val (.long q4), .second, .val (.long q5), .second, .val (.int p6), .val (.ref b1), .unset, .unset, .unset, .unset, .unset, .unset, .unset, .unset, .unset, .unset, .unset, .unset]) rfl ?_
    show Steps p.tables e below (T2.setTop (mkF m 15 #[.val (.long q1), .second, .val (.long q2), .second, .val (.long q3), .second, .val (.long q4), .second, .val (.long q5), .second, .val (.int p6), .val (.ref b1), .unset, .unset, .unset, .unset, .unset, .unset, .unset, .unset, .unset, .unset, .unset, .unset] [])) _
    refine XS.iload X2.here hx rfl (hb hby at_15) rfl ?_
    show Steps p.tables e below (T2.setTop (mkF m 17 #[.val (.long q1), .second, .val (.long q2), .second, .val (.long q3), .second, .val (.long q4), .second, .val (.long q5), .second, .val (.int p6), .val (.ref b1), .unset, .unset, .unset, .unset, .unset, .unset, .unset, .unset, .unset, .unset, .unset, .unset] [(.int p6)])) _
    refine XS.bipush X2.here hx rfl (hb hby at_17) ?_
    show Steps p.tables e below (T2.setTop (mkF m 19 #[.val (.long q1), .second, .val (.long q2), .second, .val (.long q3), .second, .val (.long q4), .second, .val (.long q5), .second, .val (.int p6), .val (.ref b1), .unset, .unset, .unset, .unset, .unset, .unset, .unset, .unset, .unset, .unset, .unset, .unset] [(.int (15 : Int32)), (.int p6)])) _
    refine XS.iand X2.here hx rfl (hb hby at_19) rfl ?_
    show Steps p.tables e below (T2.setTop (mkF m 20 #[.val (.long q1), .second, .val (.long q2), .second, .val (.long q3), .second, .val (.long q4), .second, .val (.long q5), .second, .val (.int p6), .val (.ref b1), .unset, .unset, .unset, .unset, .unset, .unset, .unset, .unset, .unset, .unset, .unset, .unset] [(.int (p6 &&& (15 : Int32)))])) _
    refine XS.istore X2.here hx rfl (hb hby at_20) rfl (l' := #[.val (.long q1), .second, .val (.long q2), .second, .val (.long q3), .second, .val (.long q4), .second, .val (.long q5), .second, .val (.int p6), .val (.ref b1), .val (.int (p6 &&& (15 : Int32))), .unset, .unset, .unset, .unset, .unset, .unset, .unset, .unset, .unset, .unset, .unset]) rfl ?_
    show Steps p.tables e below (T2.setTop (mkF m 22 #[.val (.long q1), .second, .val (.long q2), .second, .val (.long q3), .second, .val (.long q4), .second, .val (.long q5), .second, .val (.int p6), .val (.ref b1), .val (.int (p6 &&& (15 : Int32))), .unset, .unset, .unset, .unset, .unset, .unset, .unset, .unset, .unset, .unset, .unset] [])) _
    refine XS.iload X2.here hx rfl (hb hby at_22) rfl ?_
    show Steps p.tables e below (T2.setTop (mkF m 24 #[.val (.long q1), .second, .val (.long q2), .second, .val (.long q3), .second, .val (.long q4), .second, .val (.long q5), .second, .val (.int p6), .val (.ref b1), .val (.int (p6 &&& (15 : Int32))), .unset, .unset, .unset, .unset, .unset, .unset, .unset, .unset, .unset, .unset, .unset] [(.int (p6 &&& (15 : Int32)))])) _
    refine XS.iconst X2.here hx rfl (hb hby at_24) ?_
    show Steps p.tables e below (T2.setTop (mkF m 25 #[.val (.long q1), .second, .val (.long q2), .second, .val (.long q3), .second, .val (.long q4), .second, .val (.long q5), .second, .val (.int p6), .val (.ref b1), .val (.int (p6 &&& (15 : Int32))), .unset, .unset, .unset, .unset, .unset, .unset, .unset, .unset, .unset, .unset, .unset] [(.int (1 : Int32)), (.int (p6 &&& (15 : Int32)))])) _
    refine XS.iand X2.here hx rfl (hb hby at_25) rfl ?_
    show Steps p.tables e below (T2.setTop (mkF m 26 #[.val (.long q1), .second, .val (.long q2), .second, .val (.long q3), .second, .val (.long q4), .second, .val (.long q5), .second, .val (.int p6), .val (.ref b1), .val (.int (p6 &&& (15 : Int32))), .unset, .unset, .unset, .unset, .unset, .unset, .unset, .unset, .unset, .unset, .unset] [(.int ((p6 &&& (15 : Int32)) &&& (1 : Int32)))])) _
    refine dm3 _ ?_
    show Steps p.tables e below (T2.setTop (mkF m 37 #[.val (.long q1), .second, .val (.long q2), .second, .val (.long q3), .second, .val (.long q4), .second, .val (.long q5), .second, .val (.int p6), .val (.ref b1), .val (.int (p6 &&& (15 : Int32))), .unset, .unset, .unset, .unset, .unset, .unset, .unset, .unset, .unset, .unset, .unset] [(.long (own_b p6 (1 : Int32) q1 q5))])) _
    refine XS.lstore X2.here hx rfl (hb hby at_37) rfl (l' := #[.val (.long q1), .second, .val (.long q2), .second, .val (.long q3), .second, .val (.long q4), .second, .val (.long q5), .second, .val (.int p6), .val (.ref b1), .val (.int (p6 &&& (15 : Int32))), .val (.long (own_b p6 (1 : Int32) q1 q5)), .second, .unset, .unset, .unset, .unset, .unset, .unset, .unset, .unset, .unset]) rfl ?_
    show Steps p.tables e below (T2.setTop (mkF m 39 #[.val (.long q1), .second, .val (.long q2), .second, .val (.long q3), .second, .val (.long q4), .second, .val (.long q5), .second, .val (.int p6), .val (.ref b1), .val (.int (p6 &&& (15 : Int32))), .val (.long (own_b p6 (1 : Int32) q1 q5)), .second, .unset, .unset, .unset, .unset, .unset, .unset, .unset, .unset, .unset] [])) _
    refine XS.iload X2.here hx rfl (hb hby at_39) rfl ?_
    show Steps p.tables e below (T2.setTop (mkF m 41 #[.val (.long q1), .second, .val (.long q2), .second, .val (.long q3), .second, .val (.long q4), .second, .val (.long q5), .second, .val (.int p6), .val (.ref b1), .val (.int (p6 &&& (15 : Int32))), .val (.long (own_b p6 (1 : Int32) q1 q5)), .second, .unset, .unset, .unset, .unset, .unset, .unset, .unset, .unset, .unset] [(.int (p6 &&& (15 : Int32)))])) _
    refine XS.iconst X2.here hx rfl (hb hby at_41) ?_
    show Steps p.tables e below (T2.setTop (mkF m 42 #[.val (.long q1), .second, .val (.long q2), .second, .val (.long q3), .second, .val (.long q4), .second, .val (.long q5), .second, .val (.int p6), .val (.ref b1), .val (.int (p6 &&& (15 : Int32))), .val (.long (own_b p6 (1 : Int32) q1 q5)), .second, .unset, .unset, .unset, .unset, .unset, .unset, .unset, .unset, .unset] [(.int (2 : Int32)), (.int (p6 &&& (15 : Int32)))])) _
    refine XS.iand X2.here hx rfl (hb hby at_42) rfl ?_
    show Steps p.tables e below (T2.setTop (mkF m 43 #[.val (.long q1), .second, .val (.long q2), .second, .val (.long q3), .second, .val (.long q4), .second, .val (.long q5), .second, .val (.int p6), .val (.ref b1), .val (.int (p6 &&& (15 : Int32))), .val (.long (own_b p6 (1 : Int32) q1 q5)), .second, .unset, .unset, .unset, .unset, .unset, .unset, .unset, .unset, .unset] [(.int ((p6 &&& (15 : Int32)) &&& (2 : Int32)))])) _
    refine dm4 _ ?_
    show Steps p.tables e below (T2.setTop (mkF m 54 #[.val (.long q1), .second, .val (.long q2), .second, .val (.long q3), .second, .val (.long q4), .second, .val (.long q5), .second, .val (.int p6), .val (.ref b1), .val (.int (p6 &&& (15 : Int32))), .val (.long (own_b p6 (1 : Int32) q1 q5)), .second, .unset, .unset, .unset, .unset, .unset, .unset, .unset, .unset, .unset] [(.long (own_b p6 (2 : Int32) q2 q5))])) _
    refine XS.lstore X2.here hx rfl (hb hby at_54) rfl (l' := #[.val (.long q1), .second, .val (.long q2), .second, .val (.long q3), .second, .val (.long q4), .second, .val (.long q5), .second, .val (.int p6), .val (.ref b1), .val (.int (p6 &&& (15 : Int32))), .val (.long (own_b p6 (1 : Int32) q1 q5)), .second, .val (.long (own_b p6 (2 : Int32) q2 q5)), .second, .unset, .unset, .unset, .unset, .unset, .unset, .unset]) rfl ?_
    show Steps p.tables e below (T2.setTop (mkF m 56 #[.val (.long q1), .second, .val (.long q2), .second, .val (.long q3), .second, .val (.long q4), .second, .val (.long q5), .second, .val (.int p6), .val (.ref b1), .val (.int (p6 &&& (15 : Int32))), .val (.long (own_b p6 (1 : Int32) q1 q5)), .second, .val (.long (own_b p6 (2 : Int32) q2 q5)), .second, .unset, .unset, .unset, .unset, .unset, .unset, .unset] [])) _
    refine XS.iload X2.here hx rfl (hb hby at_56) rfl ?_
    show Steps p.tables e below (T2.setTop (mkF m 58 #[.val (.long q1), .second, .val (.long q2), .second, .val (.long q3), .second, .val (.long q4), .second, .val (.long q5), .second, .val (.int p6), .val (.ref b1), .val (.int (p6 &&& (15 : Int32))), .val (.long (own_b p6 (1 : Int32) q1 q5)), .second, .val (.long (own_b p6 (2 : Int32) q2 q5)), .second, .unset, .unset, .unset, .unset, .unset, .unset, .unset] [(.int (p6 &&& (15 : Int32)))])) _
    refine XS.iconst X2.here hx rfl (hb hby at_58) ?_
    show Steps p.tables e below (T2.setTop (mkF m 59 #[.val (.long q1), .second, .val (.long q2), .second, .val (.long q3), .second, .val (.long q4), .second, .val (.long q5), .second, .val (.int p6), .val (.ref b1), .val (.int (p6 &&& (15 : Int32))), .val (.long (own_b p6 (1 : Int32) q1 q5)), .second, .val (.long (own_b p6 (2 : Int32) q2 q5)), .second, .unset, .unset, .unset, .unset, .unset, .unset, .unset] [(.int (4 : Int32)), (.int (p6 &&& (15 : Int32)))])) _
    refine XS.iand X2.here hx rfl (hb hby at_59) rfl ?_
    show Steps p.tables e below (T2.setTop (mkF m 60 #[.val (.long q1), .second, .val (.long q2), .second, .val (.long q3), .second, .val (.long q4), .second, .val (.long q5), .second, .val (.int p6), .val (.ref b1), .val (.int (p6 &&& (15 : Int32))), .val (.long (own_b p6 (1 : Int32) q1 q5)), .second, .val (.long (own_b p6 (2 : Int32) q2 q5)), .second, .unset, .unset, .unset, .unset, .unset, .unset, .unset] [(.int ((p6 &&& (15 : Int32)) &&& (4 : Int32)))])) _
    refine dm5 _ ?_
    show Steps p.tables e below (T2.setTop (mkF m 73 #[.val (.long q1), .second, .val (.long q2), .second, .val (.long q3), .second, .val (.long q4), .second, .val (.long q5), .second, .val (.int p6), .val (.ref b1), .val (.int (p6 &&& (15 : Int32))), .val (.long (own_b p6 (1 : Int32) q1 q5)), .second, .val (.long (own_b p6 (2 : Int32) q2 q5)), .second, .unset, .unset, .unset, .unset, .unset, .unset, .unset] [(.long (own_b p6 (4 : Int32) q3 q5))])) _
    refine XS.lstore X2.here hx rfl (hb hby at_73) rfl (l' := #[.val (.long q1), .second, .val (.long q2), .second, .val (.long q3), .second, .val (.long q4), .second, .val (.long q5), .second, .val (.int p6), .val (.ref b1), .val (.int (p6 &&& (15 : Int32))), .val (.long (own_b p6 (1 : Int32) q1 q5)), .second, .val (.long (own_b p6 (2 : Int32) q2 q5)), .second, .val (.long (own_b p6 (4 : Int32) q3 q5)), .second, .unset, .unset, .unset, .unset, .unset]) rfl ?_
    show Steps p.tables e below (T2.setTop (mkF m 75 #[.val (.long q1), .second, .val (.long q2), .second, .val (.long q3), .second, .val (.long q4), .second, .val (.long q5), .second, .val (.int p6), .val (.ref b1), .val (.int (p6 &&& (15 : Int32))), .val (.long (own_b p6 (1 : Int32) q1 q5)), .second, .val (.long (own_b p6 (2 : Int32) q2 q5)), .second, .val (.long (own_b p6 (4 : Int32) q3 q5)), .second, .unset, .unset, .unset, .unset, .unset] [])) _
    refine XS.iload X2.here hx rfl (hb hby at_75) rfl ?_
    show Steps p.tables e below (T2.setTop (mkF m 77 #[.val (.long q1), .second, .val (.long q2), .second, .val (.long q3), .second, .val (.long q4), .second, .val (.long q5), .second, .val (.int p6), .val (.ref b1), .val (.int (p6 &&& (15 : Int32))), .val (.long (own_b p6 (1 : Int32) q1 q5)), .second, .val (.long (own_b p6 (2 : Int32) q2 q5)), .second, .val (.long (own_b p6 (4 : Int32) q3 q5)), .second, .unset, .unset, .unset, .unset, .unset] [(.int (p6 &&& (15 : Int32)))])) _
    refine XS.bipush X2.here hx rfl (hb hby at_77) ?_
    show Steps p.tables e below (T2.setTop (mkF m 79 #[.val (.long q1), .second, .val (.long q2), .second, .val (.long q3), .second, .val (.long q4), .second, .val (.long q5), .second, .val (.int p6), .val (.ref b1), .val (.int (p6 &&& (15 : Int32))), .val (.long (own_b p6 (1 : Int32) q1 q5)), .second, .val (.long (own_b p6 (2 : Int32) q2 q5)), .second, .val (.long (own_b p6 (4 : Int32) q3 q5)), .second, .unset, .unset, .unset, .unset, .unset] [(.int (8 : Int32)), (.int (p6 &&& (15 : Int32)))])) _
    refine XS.iand X2.here hx rfl (hb hby at_79) rfl ?_
    show Steps p.tables e below (T2.setTop (mkF m 80 #[.val (.long q1), .second, .val (.long q2), .second, .val (.long q3), .second, .val (.long q4), .second, .val (.long q5), .second, .val (.int p6), .val (.ref b1), .val (.int (p6 &&& (15 : Int32))), .val (.long (own_b p6 (1 : Int32) q1 q5)), .second, .val (.long (own_b p6 (2 : Int32) q2 q5)), .second, .val (.long (own_b p6 (4 : Int32) q3 q5)), .second, .unset, .unset, .unset, .unset, .unset] [(.int ((p6 &&& (15 : Int32)) &&& (8 : Int32)))])) _
    refine dm6 _ ?_
    show Steps p.tables e below (T2.setTop (mkF m 93 #[.val (.long q1), .second, .val (.long q2), .second, .val (.long q3), .second, .val (.long q4), .second, .val (.long q5), .second, .val (.int p6), .val (.ref b1), .val (.int (p6 &&& (15 : Int32))), .val (.long (own_b p6 (1 : Int32) q1 q5)), .second, .val (.long (own_b p6 (2 : Int32) q2 q5)), .second, .val (.long (own_b p6 (4 : Int32) q3 q5)), .second, .unset, .unset, .unset, .unset, .unset] [(.long (own_b p6 (8 : Int32) q4 q5))])) _
    refine XS.lstore X2.here hx rfl (hb hby at_93) rfl (l' := #[.val (.long q1), .second, .val (.long q2), .second, .val (.long q3), .second, .val (.long q4), .second, .val (.long q5), .second, .val (.int p6), .val (.ref b1), .val (.int (p6 &&& (15 : Int32))), .val (.long (own_b p6 (1 : Int32) q1 q5)), .second, .val (.long (own_b p6 (2 : Int32) q2 q5)), .second, .val (.long (own_b p6 (4 : Int32) q3 q5)), .second, .val (.long (own_b p6 (8 : Int32) q4 q5)), .second, .unset, .unset, .unset]) rfl ?_
    show Steps p.tables e below (T2.setTop (mkF m 95 #[.val (.long q1), .second, .val (.long q2), .second, .val (.long q3), .second, .val (.long q4), .second, .val (.long q5), .second, .val (.int p6), .val (.ref b1), .val (.int (p6 &&& (15 : Int32))), .val (.long (own_b p6 (1 : Int32) q1 q5)), .second, .val (.long (own_b p6 (2 : Int32) q2 q5)), .second, .val (.long (own_b p6 (4 : Int32) q3 q5)), .second, .val (.long (own_b p6 (8 : Int32) q4 q5)), .second, .unset, .unset, .unset] [])) _
    refine st7 _ ?_
    show Steps p.tables e below (T7.setTop (mkF m 98 #[.val (.long q1), .second, .val (.long q2), .second, .val (.long q3), .second, .val (.long q4), .second, .val (.long q5), .second, .val (.int p6), .val (.ref b1), .val (.int (p6 &&& (15 : Int32))), .val (.long (own_b p6 (1 : Int32) q1 q5)), .second, .val (.long (own_b p6 (2 : Int32) q2 q5)), .second, .val (.long (own_b p6 (4 : Int32) q3 q5)), .second, .val (.long (own_b p6 (8 : Int32) q4 q5)), .second, .unset, .unset, .unset] [(.ref b7)])) _
    refine XS.dup X7.here hx rfl (hb hby at_98) rfl rfl ?_
    show Steps p.tables e below (T7.setTop (mkF m 99 #[.val (.long q1), .second, .val (.long q2), .second, .val (.long q3), .second, .val (.long q4), .second, .val (.long q5), .second, .val (.int p6), .val (.ref b1), .val (.int (p6 &&& (15 : Int32))), .val (.long (own_b p6 (1 : Int32) q1 q5)), .second, .val (.long (own_b p6 (2 : Int32) q2 q5)), .second, .val (.long (own_b p6 (4 : Int32) q3 q5)), .second, .val (.long (own_b p6 (8 : Int32) q4 q5)), .second, .unset, .unset, .unset] [(.ref b7), (.ref b7)])) _
    refine XS.lload X7.here hx rfl (hb hby at_99) rfl ?_
    show Steps p.tables e below (T7.setTop (mkF m 101 #[.val (.long q1), .second, .val (.long q2), .second, .val (.long q3), .second, .val (.long q4), .second, .val (.long q5), .second, .val (.int p6), .val (.ref b1), .val (.int (p6 &&& (15 : Int32))), .val (.long (own_b p6 (1 : Int32) q1 q5)), .second, .val (.long (own_b p6 (2 : Int32) q2 q5)), .second, .val (.long (own_b p6 (4 : Int32) q3 q5)), .second, .val (.long (own_b p6 (8 : Int32) q4 q5)), .second, .unset, .unset, .unset] [(.long (own_b p6 (1 : Int32) q1 q5)), (.ref b7), (.ref b7)])) _
    refine XS.lload X7.here hx rfl (hb hby at_101) rfl ?_
    show Steps p.tables e below (T7.setTop (mkF m 103 #[.val (.long q1), .second, .val (.long q2), .second, .val (.long q3), .second, .val (.long q4), .second, .val (.long q5), .second, .val (.int p6), .val (.ref b1), .val (.int (p6 &&& (15 : Int32))), .val (.long (own_b p6 (1 : Int32) q1 q5)), .second, .val (.long (own_b p6 (2 : Int32) q2 q5)), .second, .val (.long (own_b p6 (4 : Int32) q3 q5)), .second, .val (.long (own_b p6 (8 : Int32) q4 q5)), .second, .unset, .unset, .unset] [(.long (own_b p6 (2 : Int32) q2 q5)), (.long (own_b p6 (1 : Int32) q1 q5)), (.ref b7), (.ref b7)])) _
    refine XS.lload X7.here hx rfl (hb hby at_103) rfl ?_
    show Steps p.tables e below (T7.setTop (mkF m 105 #[.val (.long q1), .second, .val (.long q2), .second, .val (.long q3), .second, .val (.long q4), .second, .val (.long q5), .second, .val (.int p6), .val (.ref b1), .val (.int (p6 &&& (15 : Int32))), .val (.long (own_b p6 (1 : Int32) q1 q5)), .second, .val (.long (own_b p6 (2 : Int32) q2 q5)), .second, .val (.long (own_b p6 (4 : Int32) q3 q5)), .second, .val (.long (own_b p6 (8 : Int32) q4 q5)), .second, .unset, .unset, .unset] [(.long (own_b p6 (4 : Int32) q3 q5)), (.long (own_b p6 (2 : Int32) q2 q5)), (.long (own_b p6 (1 : Int32) q1 q5)), (.ref b7), (.ref b7)])) _
    refine XS.lload X7.here hx rfl (hb hby at_105) rfl ?_
    show Steps p.tables e below (T7.setTop (mkF m 107 #[.val (.long q1), .second, .val (.long q2), .second, .val (.long q3), .second, .val (.long q4), .second, .val (.long q5), .second, .val (.int p6), .val (.ref b1), .val (.int (p6 &&& (15 : Int32))), .val (.long (own_b p6 (1 : Int32) q1 q5)), .second, .val (.long (own_b p6 (2 : Int32) q2 q5)), .second, .val (.long (own_b p6 (4 : Int32) q3 q5)), .second, .val (.long (own_b p6 (8 : Int32) q4 q5)), .second, .unset, .unset, .unset] [(.long (own_b p6 (8 : Int32) q4 q5)), (.long (own_b p6 (4 : Int32) q3 q5)), (.long (own_b p6 (2 : Int32) q2 q5)), (.long (own_b p6 (1 : Int32) q1 q5)), (.ref b7), (.ref b7)])) _
    refine st8.trans ?_
    show Steps p.tables e below (T8.setTop (mkF m 110 #[.val (.long q1), .second, .val (.long q2), .second, .val (.long q3), .second, .val (.long q4), .second, .val (.long q5), .second, .val (.int p6), .val (.ref b1), .val (.int (p6 &&& (15 : Int32))), .val (.long (own_b p6 (1 : Int32) q1 q5)), .second, .val (.long (own_b p6 (2 : Int32) q2 q5)), .second, .val (.long (own_b p6 (4 : Int32) q3 q5)), .second, .val (.long (own_b p6 (8 : Int32) q4 q5)), .second, .unset, .unset, .unset] [(.ref b7)])) _
    refine XS.astore X8.here hx rfl (hb hby at_110) rfl rfl (l' := #[.val (.long q1), .second, .val (.long q2), .second, .val (.long q3), .second, .val (.long q4), .second, .val (.long q5), .second, .val (.int p6), .val (.ref b1), .val (.int (p6 &&& (15 : Int32))), .val (.long (own_b p6 (1 : Int32) q1 q5)), .second, .val (.long (own_b p6 (2 : Int32) q2 q5)), .second, .val (.long (own_b p6 (4 : Int32) q3 q5)), .second, .val (.long (own_b p6 (8 : Int32) q4 q5)), .second, .val (.ref b7), .unset, .unset]) rfl ?_
    show Steps p.tables e below (T8.setTop (mkF m 112 #[.val (.long q1), .second, .val (.long q2), .second, .val (.long q3), .second, .val (.long q4), .second, .val (.long q5), .second, .val (.int p6), .val (.ref b1), .val (.int (p6 &&& (15 : Int32))), .val (.long (own_b p6 (1 : Int32) q1 q5)), .second, .val (.long (own_b p6 (2 : Int32) q2 q5)), .second, .val (.long (own_b p6 (4 : Int32) q3 q5)), .second, .val (.long (own_b p6 (8 : Int32) q4 q5)), .second, .val (.ref b7), .unset, .unset] [])) _
    refine XS.iload X8.here hx rfl (hb hby at_112) rfl ?_
    show Steps p.tables e below (T8.setTop (mkF m 114 #[.val (.long q1), .second, .val (.long q2), .second, .val (.long q3), .second, .val (.long q4), .second, .val (.long q5), .second, .val (.int p6), .val (.ref b1), .val (.int (p6 &&& (15 : Int32))), .val (.long (own_b p6 (1 : Int32) q1 q5)), .second, .val (.long (own_b p6 (2 : Int32) q2 q5)), .second, .val (.long (own_b p6 (4 : Int32) q3 q5)), .second, .val (.long (own_b p6 (8 : Int32) q4 q5)), .second, .val (.ref b7), .unset, .unset] [(.int p6)])) _
    refine XS.iconst X8.here hx rfl (hb hby at_114) ?_
    show Steps p.tables e below (T8.setTop (mkF m 115 #[.val (.long q1), .second, .val (.long q2), .second, .val (.long q3), .second, .val (.long q4), .second, .val (.long q5), .second, .val (.int p6), .val (.ref b1), .val (.int (p6 &&& (15 : Int32))), .val (.long (own_b p6 (1 : Int32) q1 q5)), .second, .val (.long (own_b p6 (2 : Int32) q2 q5)), .second, .val (.long (own_b p6 (4 : Int32) q3 q5)), .second, .val (.long (own_b p6 (8 : Int32) q4 q5)), .second, .val (.ref b7), .unset, .unset] [(.int (4 : Int32)), (.int p6)])) _
    refine XS.iushr X8.here hx rfl (hb hby at_115) rfl ?_
    show Steps p.tables e below (T8.setTop (mkF m 116 #[.val (.long q1), .second, .val (.long q2), .second, .val (.long q3), .second, .val (.long q4), .second, .val (.long q5), .second, .val (.int p6), .val (.ref b1), .val (.int (p6 &&& (15 : Int32))), .val (.long (own_b p6 (1 : Int32) q1 q5)), .second, .val (.long (own_b p6 (2 : Int32) q2 q5)), .second, .val (.long (own_b p6 (4 : Int32) q3 q5)), .second, .val (.long (own_b p6 (8 : Int32) q4 q5)), .second, .val (.ref b7), .unset, .unset] [(.int ((p6.toUInt32 >>> ((4 : Int32) &&& 31).toUInt32).toInt32))])) _
    refine XS.iconst X8.here hx rfl (hb hby at_116) ?_
    show Steps p.tables e below (T8.setTop (mkF m 117 #[.val (.long q1), .second, .val (.long q2), .second, .val (.long q3), .second, .val (.long q4), .second, .val (.long q5), .second, .val (.int p6), .val (.ref b1), .val (.int (p6 &&& (15 : Int32))), .val (.long (own_b p6 (1 : Int32) q1 q5)), .second, .val (.long (own_b p6 (2 : Int32) q2 q5)), .second, .val (.long (own_b p6 (4 : Int32) q3 q5)), .second, .val (.long (own_b p6 (8 : Int32) q4 q5)), .second, .val (.ref b7), .unset, .unset] [(.int (3 : Int32)), (.int ((p6.toUInt32 >>> ((4 : Int32) &&& 31).toUInt32).toInt32))])) _
    refine XS.iand X8.here hx rfl (hb hby at_117) rfl ?_
    show Steps p.tables e below (T8.setTop (mkF m 118 #[.val (.long q1), .second, .val (.long q2), .second, .val (.long q3), .second, .val (.long q4), .second, .val (.long q5), .second, .val (.int p6), .val (.ref b1), .val (.int (p6 &&& (15 : Int32))), .val (.long (own_b p6 (1 : Int32) q1 q5)), .second, .val (.long (own_b p6 (2 : Int32) q2 q5)), .second, .val (.long (own_b p6 (4 : Int32) q3 q5)), .second, .val (.long (own_b p6 (8 : Int32) q4 q5)), .second, .val (.ref b7), .unset, .unset] [(.int (((p6.toUInt32 >>> ((4 : Int32) &&& 31).toUInt32).toInt32) &&& (3 : Int32)))])) _
    rw [P1]
    show Steps p.tables e below (T8.setTop (mkF m 118 #[.val (.long q1), .second, .val (.long q2), .second, .val (.long q3), .second, .val (.long q4), .second, .val (.long q5), .second, .val (.int p6), .val (.ref b1), .val (.int (p6 &&& (15 : Int32))), .val (.long (own_b p6 (1 : Int32) q1 q5)), .second, .val (.long (own_b p6 (2 : Int32) q2 q5)), .second, .val (.long (own_b p6 (4 : Int32) q3 q5)), .second, .val (.long (own_b p6 (8 : Int32) q4 q5)), .second, .val (.ref b7), .unset, .unset] [(.int (0 : Int32))])) _
    refine XS.istore X8.here hx rfl (hb hby at_118) rfl (l' := #[.val (.long q1), .second, .val (.long q2), .second, .val (.long q3), .second, .val (.long q4), .second, .val (.long q5), .second, .val (.int p6), .val (.ref b1), .val (.int (p6 &&& (15 : Int32))), .val (.long (own_b p6 (1 : Int32) q1 q5)), .second, .val (.long (own_b p6 (2 : Int32) q2 q5)), .second, .val (.long (own_b p6 (4 : Int32) q3 q5)), .second, .val (.long (own_b p6 (8 : Int32) q4 q5)), .second, .val (.ref b7), .val (.int (0 : Int32)), .unset]) rfl ?_
    show Steps p.tables e below (T8.setTop (mkF m 120 #[.val (.long q1), .second, .val (.long q2), .second, .val (.long q3), .second, .val (.long q4), .second, .val (.long q5), .second, .val (.int p6), .val (.ref b1), .val (.int (p6 &&& (15 : Int32))), .val (.long (own_b p6 (1 : Int32) q1 q5)), .second, .val (.long (own_b p6 (2 : Int32) q2 q5)), .second, .val (.long (own_b p6 (4 : Int32) q3 q5)), .second, .val (.long (own_b p6 (8 : Int32) q4 q5)), .second, .val (.ref b7), .val (.int (0 : Int32)), .unset] [])) _
    refine XS.iload X8.here hx rfl (hb hby at_120) rfl ?_
    show Steps p.tables e below (T8.setTop (mkF m 122 #[.val (.long q1), .second, .val (.long q2), .second, .val (.long q3), .second, .val (.long q4), .second, .val (.long q5), .second, .val (.int p6), .val (.ref b1), .val (.int (p6 &&& (15 : Int32))), .val (.long (own_b p6 (1 : Int32) q1 q5)), .second, .val (.long (own_b p6 (2 : Int32) q2 q5)), .second, .val (.long (own_b p6 (4 : Int32) q3 q5)), .second, .val (.long (own_b p6 (8 : Int32) q4 q5)), .second, .val (.ref b7), .val (.int (0 : Int32)), .unset] [(.int (0 : Int32))])) _
    refine XS.iconst X8.here hx rfl (hb hby at_122) ?_
    show Steps p.tables e below (T8.setTop (mkF m 123 #[.val (.long q1), .second, .val (.long q2), .second, .val (.long q3), .second, .val (.long q4), .second, .val (.long q5), .second, .val (.int p6), .val (.ref b1), .val (.int (p6 &&& (15 : Int32))), .val (.long (own_b p6 (1 : Int32) q1 q5)), .second, .val (.long (own_b p6 (2 : Int32) q2 q5)), .second, .val (.long (own_b p6 (4 : Int32) q3 q5)), .second, .val (.long (own_b p6 (8 : Int32) q4 q5)), .second, .val (.ref b7), .val (.int (0 : Int32)), .unset] [(.int (1 : Int32)), (.int (0 : Int32))])) _
    refine XS.icmpYes X8.here hx rfl (pc0 := 123) (pc' := 141) rfl (hb hby at_123) rfl (by decide) (by decide) (by decide) ?_
    show Steps p.tables e below (T8.setTop (mkF m 141 #[.val (.long q1), .second, .val (.long q2), .second, .val (.long q3), .second, .val (.long q4), .second, .val (.long q5), .second, .val (.int p6), .val (.ref b1), .val (.int (p6 &&& (15 : Int32))), .val (.long (own_b p6 (1 : Int32) q1 q5)), .second, .val (.long (own_b p6 (2 : Int32) q2 q5)), .second, .val (.long (own_b p6 (4 : Int32) q3 q5)), .second, .val (.long (own_b p6 (8 : Int32) q4 q5)), .second, .val (.ref b7), .val (.int (0 : Int32)), .unset] [])) _
    refine XS.iload X8.here hx rfl (hb hby at_141) rfl ?_
    show Steps p.tables e below (T8.setTop (mkF m 143 #[.val (.long q1), .second, .val (.long q2), .second, .val (.long q3), .second, .val (.long q4), .second, .val (.long q5), .second, .val (.int p6), .val (.ref b1), .val (.int (p6 &&& (15 : Int32))), .val (.long (own_b p6 (1 : Int32) q1 q5)), .second, .val (.long (own_b p6 (2 : Int32) q2 q5)), .second, .val (.long (own_b p6 (4 : Int32) q3 q5)), .second, .val (.long (own_b p6 (8 : Int32) q4 q5)), .second, .val (.ref b7), .val (.int (0 : Int32)), .unset] [(.int (0 : Int32))])) _
    refine XS.iconst X8.here hx rfl (hb hby at_143) ?_
    show Steps p.tables e below (T8.setTop (mkF m 144 #[.val (.long q1), .second, .val (.long q2), .second, .val (.long q3), .second, .val (.long q4), .second, .val (.long q5), .second, .val (.int p6), .val (.ref b1), .val (.int (p6 &&& (15 : Int32))), .val (.long (own_b p6 (1 : Int32) q1 q5)), .second, .val (.long (own_b p6 (2 : Int32) q2 q5)), .second, .val (.long (own_b p6 (4 : Int32) q3 q5)), .second, .val (.long (own_b p6 (8 : Int32) q4 q5)), .second, .val (.ref b7), .val (.int (0 : Int32)), .unset] [(.int (2 : Int32)), (.int (0 : Int32))])) _
    refine XS.icmpYes X8.here hx rfl (pc0 := 144) (pc' := 165) rfl (hb hby at_144) rfl (by decide) (by decide) (by decide) ?_
    show Steps p.tables e below (T8.setTop (mkF m 165 #[.val (.long q1), .second, .val (.long q2), .second, .val (.long q3), .second, .val (.long q4), .second, .val (.long q5), .second, .val (.int p6), .val (.ref b1), .val (.int (p6 &&& (15 : Int32))), .val (.long (own_b p6 (1 : Int32) q1 q5)), .second, .val (.long (own_b p6 (2 : Int32) q2 q5)), .second, .val (.long (own_b p6 (4 : Int32) q3 q5)), .second, .val (.long (own_b p6 (8 : Int32) q4 q5)), .second, .val (.ref b7), .val (.int (0 : Int32)), .unset] [])) _
    refine XS.iload X8.here hx rfl (hb hby at_165) rfl ?_
    show Steps p.tables e below (T8.setTop (mkF m 167 #[.val (.long q1), .second, .val (.long q2), .second, .val (.long q3), .second, .val (.long q4), .second, .val (.long q5), .second, .val (.int p6), .val (.ref b1), .val (.int (p6 &&& (15 : Int32))), .val (.long (own_b p6 (1 : Int32) q1 q5)), .second, .val (.long (own_b p6 (2 : Int32) q2 q5)), .second, .val (.long (own_b p6 (4 : Int32) q3 q5)), .second, .val (.long (own_b p6 (8 : Int32) q4 q5)), .second, .val (.ref b7), .val (.int (0 : Int32)), .unset] [(.int (0 : Int32))])) _
    refine XS.iconst X8.here hx rfl (hb hby at_167) ?_
    show Steps p.tables e below (T8.setTop (mkF m 168 #[.val (.long q1), .second, .val (.long q2), .second, .val (.long q3), .second, .val (.long q4), .second, .val (.long q5), .second, .val (.int p6), .val (.ref b1), .val (.int (p6 &&& (15 : Int32))), .val (.long (own_b p6 (1 : Int32) q1 q5)), .second, .val (.long (own_b p6 (2 : Int32) q2 q5)), .second, .val (.long (own_b p6 (4 : Int32) q3 q5)), .second, .val (.long (own_b p6 (8 : Int32) q4 q5)), .second, .val (.ref b7), .val (.int (0 : Int32)), .unset] [(.int (3 : Int32)), (.int (0 : Int32))])) _
    refine XS.icmpYes X8.here hx rfl (pc0 := 168) (pc' := 179) rfl (hb hby at_168) rfl (by decide) (by decide) (by decide) ?_
    show Steps p.tables e below (T8.setTop (mkF m 179 #[.val (.long q1), .second, .val (.long q2), .second, .val (.long q3), .second, .val (.long q4), .second, .val (.long q5), .second, .val (.int p6), .val (.ref b1), .val (.int (p6 &&& (15 : Int32))), .val (.long (own_b p6 (1 : Int32) q1 q5)), .second, .val (.long (own_b p6 (2 : Int32) q2 q5)), .second, .val (.long (own_b p6 (4 : Int32) q3 q5)), .second, .val (.long (own_b p6 (8 : Int32) q4 q5)), .second, .val (.ref b7), .val (.int (0 : Int32)), .unset] [])) _
    refine XS.iload X8.here hx rfl (hb hby at_179) rfl ?_
    show Steps p.tables e below (T8.setTop (mkF m 181 #[.val (.long q1), .second, .val (.long q2), .second, .val (.long q3), .second, .val (.long q4), .second, .val (.long q5), .second, .val (.int p6), .val (.ref b1), .val (.int (p6 &&& (15 : Int32))), .val (.long (own_b p6 (1 : Int32) q1 q5)), .second, .val (.long (own_b p6 (2 : Int32) q2 q5)), .second, .val (.long (own_b p6 (4 : Int32) q3 q5)), .second, .val (.long (own_b p6 (8 : Int32) q4 q5)), .second, .val (.ref b7), .val (.int (0 : Int32)), .unset] [(.int (p6 &&& (15 : Int32)))])) _
    refine XS.ifYes X8.here hx rfl (pc0 := 181) (pc' := 191) rfl (hb hby at_181) rfl ((if0 _ _).trans (teq P2).1) (by decide) (by decide) ?_
    show Steps p.tables e below (T8.setTop (mkF m 191 #[.val (.long q1), .second, .val (.long q2), .second, .val (.long q3), .second, .val (.long q4), .second, .val (.long q5), .second, .val (.int p6), .val (.ref b1), .val (.int (p6 &&& (15 : Int32))), .val (.long (own_b p6 (1 : Int32) q1 q5)), .second, .val (.long (own_b p6 (2 : Int32) q2 q5)), .second, .val (.long (own_b p6 (4 : Int32) q3 q5)), .second, .val (.long (own_b p6 (8 : Int32) q4 q5)), .second, .val (.ref b7), .val (.int (0 : Int32)), .unset] [])) _
    refine XS.iconst X8.here hx rfl (hb hby at_191) ?_
    show Steps p.tables e below (T8.setTop (mkF m 192 #[.val (.long q1), .second, .val (.long q2), .second, .val (.long q3), .second, .val (.long q4), .second, .val (.long q5), .second, .val (.int p6), .val (.ref b1), .val (.int (p6 &&& (15 : Int32))), .val (.long (own_b p6 (1 : Int32) q1 q5)), .second, .val (.long (own_b p6 (2 : Int32) q2 q5)), .second, .val (.long (own_b p6 (4 : Int32) q3 q5)), .second, .val (.long (own_b p6 (8 : Int32) q4 q5)), .second, .val (.ref b7), .val (.int (0 : Int32)), .unset] [(.int (1 : Int32))])) _
    refine XS.goto X8.here hx rfl (pc0 := 192) (pc' := 196) rfl (hb hby at_192) (by decide) (by decide) ?_
    show Steps p.tables e below (T8.setTop (mkF m 196 #[.val (.long q1), .second, .val (.long q2), .second, .val (.long q3), .second, .val (.long q4), .second, .val (.long q5), .second, .val (.int p6), .val (.ref b1), .val (.int (p6 &&& (15 : Int32))), .val (.long (own_b p6 (1 : Int32) q1 q5)), .second, .val (.long (own_b p6 (2 : Int32) q2 q5)), .second, .val (.long (own_b p6 (4 : Int32) q3 q5)), .second, .val (.long (own_b p6 (8 : Int32) q4 q5)), .second, .val (.ref b7), .val (.int (0 : Int32)), .unset] [(.int (1 : Int32))])) _
    refine XS.istore X8.here hx rfl (hb hby at_196) rfl (l' := #[.val (.long q1), .second, .val (.long q2), .second, .val (.long q3), .second, .val (.long q4), .second, .val (.long q5), .second, .val (.int p6), .val (.ref b1), .val (.int (p6 &&& (15 : Int32))), .val (.long (own_b p6 (1 : Int32) q1 q5)), .second, .val (.long (own_b p6 (2 : Int32) q2 q5)), .second, .val (.long (own_b p6 (4 : Int32) q3 q5)), .second, .val (.long (own_b p6 (8 : Int32) q4 q5)), .second, .val (.ref b7), .val (.int (0 : Int32)), .val (.int (1 : Int32))]) rfl ?_
    show Steps p.tables e below (T8.setTop (mkF m 198 #[.val (.long q1), .second, .val (.long q2), .second, .val (.long q3), .second, .val (.long q4), .second, .val (.long q5), .second, .val (.int p6), .val (.ref b1), .val (.int (p6 &&& (15 : Int32))), .val (.long (own_b p6 (1 : Int32) q1 q5)), .second, .val (.long (own_b p6 (2 : Int32) q2 q5)), .second, .val (.long (own_b p6 (4 : Int32) q3 q5)), .second, .val (.long (own_b p6 (8 : Int32) q4 q5)), .second, .val (.ref b7), .val (.int (0 : Int32)), .val (.int (1 : Int32))] [])) _
    refine XS.aload X8.here hx rfl (hb hby at_198) rfl rfl ?_
    show Steps p.tables e below (T8.setTop (mkF m 200 #[.val (.long q1), .second, .val (.long q2), .second, .val (.long q3), .second, .val (.long q4), .second, .val (.long q5), .second, .val (.int p6), .val (.ref b1), .val (.int (p6 &&& (15 : Int32))), .val (.long (own_b p6 (1 : Int32) q1 q5)), .second, .val (.long (own_b p6 (2 : Int32) q2 q5)), .second, .val (.long (own_b p6 (4 : Int32) q3 q5)), .second, .val (.long (own_b p6 (8 : Int32) q4 q5)), .second, .val (.ref b7), .val (.int (0 : Int32)), .val (.int (1 : Int32))] [(.ref b1)])) _
    refine XS.aload X8.here hx rfl (hb hby at_200) rfl rfl ?_
    show Steps p.tables e below (T8.setTop (mkF m 202 #[.val (.long q1), .second, .val (.long q2), .second, .val (.long q3), .second, .val (.long q4), .second, .val (.long q5), .second, .val (.int p6), .val (.ref b1), .val (.int (p6 &&& (15 : Int32))), .val (.long (own_b p6 (1 : Int32) q1 q5)), .second, .val (.long (own_b p6 (2 : Int32) q2 q5)), .second, .val (.long (own_b p6 (4 : Int32) q3 q5)), .second, .val (.long (own_b p6 (8 : Int32) q4 q5)), .second, .val (.ref b7), .val (.int (0 : Int32)), .val (.int (1 : Int32))] [(.ref b7), (.ref b1)])) _
    refine st10.trans ?_
    show Steps p.tables e below (T10.setTop (mkF m 205 #[.val (.long q1), .second, .val (.long q2), .second, .val (.long q3), .second, .val (.long q4), .second, .val (.long q5), .second, .val (.int p6), .val (.ref b1), .val (.int (p6 &&& (15 : Int32))), .val (.long (own_b p6 (1 : Int32) q1 q5)), .second, .val (.long (own_b p6 (2 : Int32) q2 q5)), .second, .val (.long (own_b p6 (4 : Int32) q3 q5)), .second, .val (.long (own_b p6 (8 : Int32) q4 q5)), .second, .val (.ref b7), .val (.int (0 : Int32)), .val (.int (1 : Int32))] [(.int (1 : Int32))])) _
    refine XS.iload X10.here hx rfl (hb hby at_205) rfl ?_
    show Steps p.tables e below (T10.setTop (mkF m 207 #[.val (.long q1), .second, .val (.long q2), .second, .val (.long q3), .second, .val (.long q4), .second, .val (.long q5), .second, .val (.int p6), .val (.ref b1), .val (.int (p6 &&& (15 : Int32))), .val (.long (own_b p6 (1 : Int32) q1 q5)), .second, .val (.long (own_b p6 (2 : Int32) q2 q5)), .second, .val (.long (own_b p6 (4 : Int32) q3 q5)), .second, .val (.long (own_b p6 (8 : Int32) q4 q5)), .second, .val (.ref b7), .val (.int (0 : Int32)), .val (.int (1 : Int32))] [(.int (1 : Int32)), (.int (1 : Int32))])) _
    refine XS.icmpNo X10.here hx rfl (hb hby at_207) rfl (by decide) ?_
    show Steps p.tables e below (T10.setTop (mkF m 210 #[.val (.long q1), .second, .val (.long q2), .second, .val (.long q3), .second, .val (.long q4), .second, .val (.long q5), .second, .val (.int p6), .val (.ref b1), .val (.int (p6 &&& (15 : Int32))), .val (.long (own_b p6 (1 : Int32) q1 q5)), .second, .val (.long (own_b p6 (2 : Int32) q2 q5)), .second, .val (.long (own_b p6 (4 : Int32) q3 q5)), .second, .val (.long (own_b p6 (8 : Int32) q4 q5)), .second, .val (.ref b7), .val (.int (0 : Int32)), .val (.int (1 : Int32))] [])) _
    refine XS.aload X10.here hx rfl (hb hby at_210) rfl rfl ?_
    show Steps p.tables e below (T10.setTop (mkF m 212 #[.val (.long q1), .second, .val (.long q2), .second, .val (.long q3), .second, .val (.long q4), .second, .val (.long q5), .second, .val (.int p6), .val (.ref b1), .val (.int (p6 &&& (15 : Int32))), .val (.long (own_b p6 (1 : Int32) q1 q5)), .second, .val (.long (own_b p6 (2 : Int32) q2 q5)), .second, .val (.long (own_b p6 (4 : Int32) q3 q5)), .second, .val (.long (own_b p6 (8 : Int32) q4 q5)), .second, .val (.ref b7), .val (.int (0 : Int32)), .val (.int (1 : Int32))] [(.ref b7)])) _
    refine XS.aload X10.here hx rfl (hb hby at_212) rfl rfl ?_
    show Steps p.tables e below (T10.setTop (mkF m 214 #[.val (.long q1), .second, .val (.long q2), .second, .val (.long q3), .second, .val (.long q4), .second, .val (.long q5), .second, .val (.int p6), .val (.ref b1), .val (.int (p6 &&& (15 : Int32))), .val (.long (own_b p6 (1 : Int32) q1 q5)), .second, .val (.long (own_b p6 (2 : Int32) q2 q5)), .second, .val (.long (own_b p6 (4 : Int32) q3 q5)), .second, .val (.long (own_b p6 (8 : Int32) q4 q5)), .second, .val (.ref b7), .val (.int (0 : Int32)), .val (.int (1 : Int32))] [(.ref b1), (.ref b7)])) _
    refine st11.trans ?_
    show Steps p.tables e below (T11.setTop (mkF m 217 #[.val (.long q1), .second, .val (.long q2), .second, .val (.long q3), .second, .val (.long q4), .second, .val (.long q5), .second, .val (.int p6), .val (.ref b1), .val (.int (p6 &&& (15 : Int32))), .val (.long (own_b p6 (1 : Int32) q1 q5)), .second, .val (.long (own_b p6 (2 : Int32) q2 q5)), .second, .val (.long (own_b p6 (4 : Int32) q3 q5)), .second, .val (.long (own_b p6 (8 : Int32) q4 q5)), .second, .val (.ref b7), .val (.int (0 : Int32)), .val (.int (1 : Int32))] [(.int (1 : Int32))])) _
    refine XS.iload X11.here hx rfl (hb hby at_217) rfl ?_
    show Steps p.tables e below (T11.setTop (mkF m 219 #[.val (.long q1), .second, .val (.long q2), .second, .val (.long q3), .second, .val (.long q4), .second, .val (.long q5), .second, .val (.int p6), .val (.ref b1), .val (.int (p6 &&& (15 : Int32))), .val (.long (own_b p6 (1 : Int32) q1 q5)), .second, .val (.long (own_b p6 (2 : Int32) q2 q5)), .second, .val (.long (own_b p6 (4 : Int32) q3 q5)), .second, .val (.long (own_b p6 (8 : Int32) q4 q5)), .second, .val (.ref b7), .val (.int (0 : Int32)), .val (.int (1 : Int32))] [(.int (1 : Int32)), (.int (1 : Int32))])) _
    refine XS.icmpNo X11.here hx rfl (hb hby at_219) rfl (by decide) ?_
    show Steps p.tables e below (T11.setTop (mkF m 222 #[.val (.long q1), .second, .val (.long q2), .second, .val (.long q3), .second, .val (.long q4), .second, .val (.long q5), .second, .val (.int p6), .val (.ref b1), .val (.int (p6 &&& (15 : Int32))), .val (.long (own_b p6 (1 : Int32) q1 q5)), .second, .val (.long (own_b p6 (2 : Int32) q2 q5)), .second, .val (.long (own_b p6 (4 : Int32) q3 q5)), .second, .val (.long (own_b p6 (8 : Int32) q4 q5)), .second, .val (.ref b7), .val (.int (0 : Int32)), .val (.int (1 : Int32))] [])) _
    refine XS.iconst X11.here hx rfl (hb hby at_222) ?_
    show Steps p.tables e below (T11.setTop (mkF m 223 #[.val (.long q1), .second, .val (.long q2), .second, .val (.long q3), .second, .val (.long q4), .second, .val (.long q5), .second, .val (.int p6), .val (.ref b1), .val (.int (p6 &&& (15 : Int32))), .val (.long (own_b p6 (1 : Int32) q1 q5)), .second, .val (.long (own_b p6 (2 : Int32) q2 q5)), .second, .val (.long (own_b p6 (4 : Int32) q3 q5)), .second, .val (.long (own_b p6 (8 : Int32) q4 q5)), .second, .val (.ref b7), .val (.int (0 : Int32)), .val (.int (1 : Int32))] [(.int (1 : Int32))])) _
    refine XS.goto X11.here hx rfl (pc0 := 223) (pc' := 227) rfl (hb hby at_223) (by decide) (by decide) ?_
    show Steps p.tables e below (T11.setTop (mkF m 227 #[.val (.long q1), .second, .val (.long q2), .second, .val (.long q3), .second, .val (.long q4), .second, .val (.long q5), .second, .val (.int p6), .val (.ref b1), .val (.int (p6 &&& (15 : Int32))), .val (.long (own_b p6 (1 : Int32) q1 q5)), .second, .val (.long (own_b p6 (2 : Int32) q2 q5)), .second, .val (.long (own_b p6 (4 : Int32) q3 q5)), .second, .val (.long (own_b p6 (8 : Int32) q4 q5)), .second, .val (.ref b7), .val (.int (0 : Int32)), .val (.int (1 : Int32))] [(.int (1 : Int32))])) _
    exact retN X11 hx (t := .boolean) Bd.returns (by simp) (hb hby at_227) hr
  · show own_Q1 n0 _ T11.heap _
    rw [e11]
    exact ⟨rfl, N11⟩
set_option maxRecDepth 65536 in
set_option maxHeartbeats 40000000 in
theorem law_1 (l : Launch) (Z : State) (a0 : Array Value) (hw : ∀ d ∈ tables_1, d.before a0 Z = true) (ws : List Jvm.Cond) (q1 : Int64) (q2 : Int64) (q3 : Int64) (q4 : Int64) (q5 : Int64) (p6 : Int32) (h0 : Heap) (n0 : Nat) (O0 : Old Z n0 h0) (P1 : (((p6.toUInt32 >>> ((4 : Int32) &&& 31).toUInt32).toInt32) &&& (3 : Int32)) = (0 : Int32)) (P2 : ¬ ((p6 &&& (15 : Int32)) = (0 : Int32))) (P3 : (lcmpW q5 (0 : Int64)) = (0 : Int32)) (P4 : (lcmpW q1 (own_b p6 (1 : Int32) q1 q5)) = (0 : Int32)) (P5 : (lcmpW q2 (own_b p6 (2 : Int32) q2 q5)) = (0 : Int32)) (P6 : (lcmpW q3 (own_b p6 (4 : Int32) q3 q5)) = (0 : Int32)) (P7 : (lcmpW q4 (own_b p6 (8 : Int32) q4 q5)) = (0 : Int32)) (P8 : (lcmpW (own_b p6 (1 : Int32) q1 q5) q1) = (0 : Int32)) (P9 : (lcmpW (own_b p6 (2 : Int32) q2 q5) q2) = (0 : Int32)) (P10 : (lcmpW (own_b p6 (4 : Int32) q3 q5) q3) = (0 : Int32)) (P11 : (lcmpW (own_b p6 (8 : Int32) q4 q5) q4) = (0 : Int32)) :
    MetFree l x (head1 (Jvm.Cond.code x code maxLocals ret :: ws) room_1) (fun a U => a = #[(.long q1), (.long q2), (.long q3), (.long q4), (.long q5), (.int p6)] ∧ Z.Warmed39 U.vm ∧ U.heap = h0) (fun _ _ _ _ _ => True) (fun _ U o U' => ∃ v L, o = .returned v ∧ own_Q1 n0 v U'.heap L ∧ FrameEnd U o U' L room_1.cells room_1.slots) := by
  refine MetFree.of_bodySF (plainFor_of_name pn_5) hisR ?_
  intro p e s m args below meth c s₁ Bd hml0 hP hK
  obtain ⟨rfl, hZ, hh⟩ := hP
  have hx := Bd.exec
  have hby := Bd.bytes
  have hml : c.maxLocals = 24 := hml0
  have hown : s.vm.findClass "com/example/bide/bide/QueueCountsEqualsPinLaw" = some m.cls := findClass_of_methodNamed Bd.named
  have hnm := (name_of_methodNamed Bd.named Bd.method).1
  have X0 : Stand p l e room_1 s m #[(.long q1), (.long q2), (.long q3), (.long q4), (.long q5), (.int p6)] below meth c s₁ [] 0 0 := Stand.of_body Bd
  have e0 : s₁.heap = h0 := by rw [← hh, Bd.state]; rfl
  have N0 := Fr.nil n0
  have pre0 : ∀ t, Steps p.tables e below (s₁.setTop (mkF m 0 #[.val (.long q1), .second, .val (.long q2), .second, .val (.long q3), .second, .val (.long q4), .second, .val (.long q5), .second, .val (.int p6), .unset, .unset, .unset, .unset, .unset, .unset, .unset, .unset, .unset, .unset, .unset, .unset, .unset] [])) t → Steps p.tables e below (s₁.setTop (entryFrame m #[(.long q1), (.long q2), (.long q3), (.long q4), (.long q5), (.int p6)] maxLocals)) t := fun t k => castTop (ef_0_JJJJJI m q1 q2 q3 q4 q5 p6) k
  obtain ⟨T1, h1, X1, e1, E1, A1, D1, -, st1⟩ := newO X0 hx hZ hown (hw _ (List.mem_of_getElem? (i := 0) rfl)) (hw _ (List.mem_of_getElem? (i := 1) rfl)) (hw _ (List.mem_of_getElem? (i := 2) rfl)) e0 (g := (mkF m 0 #[.val (.long q1), .second, .val (.long q2), .second, .val (.long q3), .second, .val (.long q4), .second, .val (.long q5), .second, .val (.int p6), .unset, .unset, .unset, .unset, .unset, .unset, .unset, .unset, .unset, .unset, .unset, .unset, .unset] [])) rfl (hb hby at_0) (by decide) (by decide)
  obtain ⟨b1, gq1⟩ : ∃ z, z = h0.size := ⟨_, rfl⟩
  rw [← gq1] at A1 D1 st1
  have g_b1 : n0 ≤ b1 := Nat.le_trans ((O0.1 ▸ O0.2.1) : n0 ≤ h0.size) (Nat.le_of_eq gq1.symm)
  have sz_b1 : h0.size ≤ b1 := Nat.le_trans (Keep.refl h0 []).1 (Nat.le_of_eq gq1.symm)
  have KK1 : Keep h0 h1 [] := (Keep.refl h0 []).ext E1
  have O1 := O0.ext E1
  have F_pending_b1 : Fld Z h1 b1 "com/example/bide/bide/QueueCounts" "pending" "J" (.long (0 : Int64)) := D1 (Or.inr (hw _ (List.mem_of_getElem? (i := 10) rfl))) (ty := .long) (by decide)
  have F_due_b1 : Fld Z h1 b1 "com/example/bide/bide/QueueCounts" "due" "J" (.long (0 : Int64)) := D1 (Or.inr (hw _ (List.mem_of_getElem? (i := 12) rfl))) (ty := .long) (by decide)
  have F_leased_b1 : Fld Z h1 b1 "com/example/bide/bide/QueueCounts" "leased" "J" (.long (0 : Int64)) := D1 (Or.inr (hw _ (List.mem_of_getElem? (i := 14) rfl))) (ty := .long) (by decide)
  have F_dead_b1 : Fld Z h1 b1 "com/example/bide/bide/QueueCounts" "dead" "J" (.long (0 : Int64)) := D1 (Or.inr (hw _ (List.mem_of_getElem? (i := 16) rfl))) (ty := .long) (by decide)
  obtain ⟨_, _, ⟨T2, L2, k2, n2⟩, -, X2, ⟨Lc2, hQ2, l2, y2, z2⟩, st2⟩ := X1.specialBack hx (y := (⟨"com/example/bide/bide/QueueCounts", "<init>", "(JJJJ)V"⟩ : MethodName)) rfl hown (mvT hZ (hw _ (List.mem_of_getElem? (i := 3) rfl))) (mvT hZ (hw _ (List.mem_of_getElem? (i := 4) rfl))) (mvT hZ (hw _ (List.mem_of_getElem? (i := 5) rfl))) (by decide) (backOf (W := 1) (rm1_0 l Z a0 hw b1 q1 q2 q3 q4 h1 n0 O1 A1 F_pending_b1 F_due_b1 F_leased_b1 F_dead_b1 g_b1) hZ (hw _ (List.mem_of_getElem? (i := 5) rfl)) (hw _ (List.mem_of_getElem? (i := 2) rfl)) (by decide) (by decide)) (g := (mkF m 10 #[.val (.long q1), .second, .val (.long q2), .second, .val (.long q3), .second, .val (.long q4), .second, .val (.long q5), .second, .val (.int p6), .unset, .unset, .unset, .unset, .unset, .unset, .unset, .unset, .unset, .unset, .unset, .unset, .unset] [(.long q4), (.long q3), (.long q2), (.long q1), (.ref b1), (.ref b1)])) rfl (by rw [hml]; rfl) (Steps.refl _) (a := b1) (argsL := [(.long q1), (.long q2), (.long q3), (.long q4)]) (rest := [(.ref b1)]) (lenOf pd_2 rfl) rfl (by show 2 * 0 + _ ≤ _; exact Nat.le_of_eq rfl) (hb hby at_10) (fun _ _ => ⟨rfl, e1, (by decide : 1 + 0 ≤ _), (by decide : 4 + 0 ≤ _)⟩)
  dsimp only [Pt.U, Pt.locs, Pt.cells, Pt.slots] at X2 l2 y2 z2 st2 hQ2
  subst l2 y2 z2
  obtain ⟨rfl, N2q, K2, f2_0, f2_1, f2_2, f2_3⟩ := hQ2
  have KK2 : Keep h0 T2.heap [] := KK1.trans K2 (allS (Or.inr sz_b1) all0)
  have O2 := O1.keep K2 (allS g_b1 all0)
  have N2 := Fr.app N0 N2q
  have dm3 : ∀ target, Steps p.tables e below (T2.setTop (mkF m 37 #[.val (.long q1), .second, .val (.long q2), .second, .val (.long q3), .second, .val (.long q4), .second, .val (.long q5), .second, .val (.int p6), .val (.ref b1), .val (.int (p6 &&& (15 : Int32))), .unset, .unset, .unset, .unset, .unset, .unset, .unset, .unset, .unset, .unset, .unset] [(.long (own_b p6 (1 : Int32) q1 q5))])) target → Steps p.tables e below (T2.setTop (mkF m 26 #[.val (.long q1), .second, .val (.long q2), .second, .val (.long q3), .second, .val (.long q4), .second, .val (.long q5), .second, .val (.int p6), .val (.ref b1), .val (.int (p6 &&& (15 : Int32))), .unset, .unset, .unset, .unset, .unset, .unset, .unset, .unset, .unset, .unset, .unset] [(.int ((p6 &&& (15 : Int32)) &&& (1 : Int32)))])) target := by
    intro target kt
    by_cases hdb : ((p6 &&& (15 : Int32)) &&& (1 : Int32)) = (0 : Int32)
    · rw [own_b_pos hdb] at kt
      show Steps p.tables e below (T2.setTop (mkF m 26 #[.val (.long q1), .second, .val (.long q2), .second, .val (.long q3), .second, .val (.long q4), .second, .val (.long q5), .second, .val (.int p6), .val (.ref b1), .val (.int (p6 &&& (15 : Int32))), .unset, .unset, .unset, .unset, .unset, .unset, .unset, .unset, .unset, .unset, .unset] [(.int ((p6 &&& (15 : Int32)) &&& (1 : Int32)))])) _
      refine XS.ifYes X2.here hx rfl (pc0 := 26) (pc' := 36) rfl (hb hby at_26) rfl ((if0 _ _).trans (teq hdb).1) (by decide) (by decide) ?_
      show Steps p.tables e below (T2.setTop (mkF m 36 #[.val (.long q1), .second, .val (.long q2), .second, .val (.long q3), .second, .val (.long q4), .second, .val (.long q5), .second, .val (.int p6), .val (.ref b1), .val (.int (p6 &&& (15 : Int32))), .unset, .unset, .unset, .unset, .unset, .unset, .unset, .unset, .unset, .unset, .unset] [])) _
      refine XS.lloadN X2.here hx rfl (hb hby at_36) rfl ?_
      exact kt
    · rw [own_b_neg hdb] at kt
      show Steps p.tables e below (T2.setTop (mkF m 26 #[.val (.long q1), .second, .val (.long q2), .second, .val (.long q3), .second, .val (.long q4), .second, .val (.long q5), .second, .val (.int p6), .val (.ref b1), .val (.int (p6 &&& (15 : Int32))), .unset, .unset, .unset, .unset, .unset, .unset, .unset, .unset, .unset, .unset, .unset] [(.int ((p6 &&& (15 : Int32)) &&& (1 : Int32)))])) _
      refine XS.ifNo X2.here hx rfl (hb hby at_26) rfl ((if0 _ _).trans (feq hdb).1) ?_
      show Steps p.tables e below (T2.setTop (mkF m 29 #[.val (.long q1), .second, .val (.long q2), .second, .val (.long q3), .second, .val (.long q4), .second, .val (.long q5), .second, .val (.int p6), .val (.ref b1), .val (.int (p6 &&& (15 : Int32))), .unset, .unset, .unset, .unset, .unset, .unset, .unset, .unset, .unset, .unset, .unset] [])) _
      refine XS.lloadN X2.here hx rfl (hb hby at_29) rfl ?_
      show Steps p.tables e below (T2.setTop (mkF m 30 #[.val (.long q1), .second, .val (.long q2), .second, .val (.long q3), .second, .val (.long q4), .second, .val (.long q5), .second, .val (.int p6), .val (.ref b1), .val (.int (p6 &&& (15 : Int32))), .unset, .unset, .unset, .unset, .unset, .unset, .unset, .unset, .unset, .unset, .unset] [(.long q1)])) _
      refine XS.lload X2.here hx rfl (hb hby at_30) rfl ?_
      show Steps p.tables e below (T2.setTop (mkF m 32 #[.val (.long q1), .second, .val (.long q2), .second, .val (.long q3), .second, .val (.long q4), .second, .val (.long q5), .second, .val (.int p6), .val (.ref b1), .val (.int (p6 &&& (15 : Int32))), .unset, .unset, .unset, .unset, .unset, .unset, .unset, .unset, .unset, .unset, .unset] [(.long q5), (.long q1)])) _
      refine XS.ladd X2.here hx rfl (hb hby at_32) rfl ?_
      show Steps p.tables e below (T2.setTop (mkF m 33 #[.val (.long q1), .second, .val (.long q2), .second, .val (.long q3), .second, .val (.long q4), .second, .val (.long q5), .second, .val (.int p6), .val (.ref b1), .val (.int (p6 &&& (15 : Int32))), .unset, .unset, .unset, .unset, .unset, .unset, .unset, .unset, .unset, .unset, .unset] [(.long (q1 + q5))])) _
      refine XS.goto X2.here hx rfl (pc0 := 33) (pc' := 37) rfl (hb hby at_33) (by decide) (by decide) ?_
      exact kt
  have dm4 : ∀ target, Steps p.tables e below (T2.setTop (mkF m 54 #[.val (.long q1), .second, .val (.long q2), .second, .val (.long q3), .second, .val (.long q4), .second, .val (.long q5), .second, .val (.int p6), .val (.ref b1), .val (.int (p6 &&& (15 : Int32))), .val (.long (own_b p6 (1 : Int32) q1 q5)), .second, .unset, .unset, .unset, .unset, .unset, .unset, .unset, .unset, .unset] [(.long (own_b p6 (2 : Int32) q2 q5))])) target → Steps p.tables e below (T2.setTop (mkF m 43 #[.val (.long q1), .second, .val (.long q2), .second, .val (.long q3), .second, .val (.long q4), .second, .val (.long q5), .second, .val (.int p6), .val (.ref b1), .val (.int (p6 &&& (15 : Int32))), .val (.long (own_b p6 (1 : Int32) q1 q5)), .second, .unset, .unset, .unset, .unset, .unset, .unset, .unset, .unset, .unset] [(.int ((p6 &&& (15 : Int32)) &&& (2 : Int32)))])) target := by
    intro target kt
    by_cases hdb : ((p6 &&& (15 : Int32)) &&& (2 : Int32)) = (0 : Int32)
    · rw [own_b_pos hdb] at kt
      show Steps p.tables e below (T2.setTop (mkF m 43 #[.val (.long q1), .second, .val (.long q2), .second, .val (.long q3), .second, .val (.long q4), .second, .val (.long q5), .second, .val (.int p6), .val (.ref b1), .val (.int (p6 &&& (15 : Int32))), .val (.long (own_b p6 (1 : Int32) q1 q5)), .second, .unset, .unset, .unset, .unset, .unset, .unset, .unset, .unset, .unset] [(.int ((p6 &&& (15 : Int32)) &&& (2 : Int32)))])) _
      refine XS.ifYes X2.here hx rfl (pc0 := 43) (pc' := 53) rfl (hb hby at_43) rfl ((if0 _ _).trans (teq hdb).1) (by decide) (by decide) ?_
      show Steps p.tables e below (T2.setTop (mkF m 53 #[.val (.long q1), .second, .val (.long q2), .second, .val (.long q3), .second, .val (.long q4), .second, .val (.long q5), .second, .val (.int p6), .val (.ref b1), .val (.int (p6 &&& (15 : Int32))), .val (.long (own_b p6 (1 : Int32) q1 q5)), .second, .unset, .unset, .unset, .unset, .unset, .unset, .unset, .unset, .unset] [])) _
      refine XS.lloadN X2.here hx rfl (hb hby at_53) rfl ?_
      exact kt
    · rw [own_b_neg hdb] at kt
      show Steps p.tables e below (T2.setTop (mkF m 43 #[.val (.long q1), .second, .val (.long q2), .second, .val (.long q3), .second, .val (.long q4), .second, .val (.long q5), .second, .val (.int p6), .val (.ref b1), .val (.int (p6 &&& (15 : Int32))), .val (.long (own_b p6 (1 : Int32) q1 q5)), .second, .unset, .unset, .unset, .unset, .unset, .unset, .unset, .unset, .unset] [(.int ((p6 &&& (15 : Int32)) &&& (2 : Int32)))])) _
      refine XS.ifNo X2.here hx rfl (hb hby at_43) rfl ((if0 _ _).trans (feq hdb).1) ?_
      show Steps p.tables e below (T2.setTop (mkF m 46 #[.val (.long q1), .second, .val (.long q2), .second, .val (.long q3), .second, .val (.long q4), .second, .val (.long q5), .second, .val (.int p6), .val (.ref b1), .val (.int (p6 &&& (15 : Int32))), .val (.long (own_b p6 (1 : Int32) q1 q5)), .second, .unset, .unset, .unset, .unset, .unset, .unset, .unset, .unset, .unset] [])) _
      refine XS.lloadN X2.here hx rfl (hb hby at_46) rfl ?_
      show Steps p.tables e below (T2.setTop (mkF m 47 #[.val (.long q1), .second, .val (.long q2), .second, .val (.long q3), .second, .val (.long q4), .second, .val (.long q5), .second, .val (.int p6), .val (.ref b1), .val (.int (p6 &&& (15 : Int32))), .val (.long (own_b p6 (1 : Int32) q1 q5)), .second, .unset, .unset, .unset, .unset, .unset, .unset, .unset, .unset, .unset] [(.long q2)])) _
      refine XS.lload X2.here hx rfl (hb hby at_47) rfl ?_
      show Steps p.tables e below (T2.setTop (mkF m 49 #[.val (.long q1), .second, .val (.long q2), .second, .val (.long q3), .second, .val (.long q4), .second, .val (.long q5), .second, .val (.int p6), .val (.ref b1), .val (.int (p6 &&& (15 : Int32))), .val (.long (own_b p6 (1 : Int32) q1 q5)), .second, .unset, .unset, .unset, .unset, .unset, .unset, .unset, .unset, .unset] [(.long q5), (.long q2)])) _
      refine XS.ladd X2.here hx rfl (hb hby at_49) rfl ?_
      show Steps p.tables e below (T2.setTop (mkF m 50 #[.val (.long q1), .second, .val (.long q2), .second, .val (.long q3), .second, .val (.long q4), .second, .val (.long q5), .second, .val (.int p6), .val (.ref b1), .val (.int (p6 &&& (15 : Int32))), .val (.long (own_b p6 (1 : Int32) q1 q5)), .second, .unset, .unset, .unset, .unset, .unset, .unset, .unset, .unset, .unset] [(.long (q2 + q5))])) _
      refine XS.goto X2.here hx rfl (pc0 := 50) (pc' := 54) rfl (hb hby at_50) (by decide) (by decide) ?_
      exact kt
  have dm5 : ∀ target, Steps p.tables e below (T2.setTop (mkF m 73 #[.val (.long q1), .second, .val (.long q2), .second, .val (.long q3), .second, .val (.long q4), .second, .val (.long q5), .second, .val (.int p6), .val (.ref b1), .val (.int (p6 &&& (15 : Int32))), .val (.long (own_b p6 (1 : Int32) q1 q5)), .second, .val (.long (own_b p6 (2 : Int32) q2 q5)), .second, .unset, .unset, .unset, .unset, .unset, .unset, .unset] [(.long (own_b p6 (4 : Int32) q3 q5))])) target → Steps p.tables e below (T2.setTop (mkF m 60 #[.val (.long q1), .second, .val (.long q2), .second, .val (.long q3), .second, .val (.long q4), .second, .val (.long q5), .second, .val (.int p6), .val (.ref b1), .val (.int (p6 &&& (15 : Int32))), .val (.long (own_b p6 (1 : Int32) q1 q5)), .second, .val (.long (own_b p6 (2 : Int32) q2 q5)), .second, .unset, .unset, .unset, .unset, .unset, .unset, .unset] [(.int ((p6 &&& (15 : Int32)) &&& (4 : Int32)))])) target := by
    intro target kt
    by_cases hdb : ((p6 &&& (15 : Int32)) &&& (4 : Int32)) = (0 : Int32)
    · rw [own_b_pos hdb] at kt
      show Steps p.tables e below (T2.setTop (mkF m 60 #[.val (.long q1), .second, .val (.long q2), .second, .val (.long q3), .second, .val (.long q4), .second, .val (.long q5), .second, .val (.int p6), .val (.ref b1), .val (.int (p6 &&& (15 : Int32))), .val (.long (own_b p6 (1 : Int32) q1 q5)), .second, .val (.long (own_b p6 (2 : Int32) q2 q5)), .second, .unset, .unset, .unset, .unset, .unset, .unset, .unset] [(.int ((p6 &&& (15 : Int32)) &&& (4 : Int32)))])) _
      refine XS.ifYes X2.here hx rfl (pc0 := 60) (pc' := 71) rfl (hb hby at_60) rfl ((if0 _ _).trans (teq hdb).1) (by decide) (by decide) ?_
      show Steps p.tables e below (T2.setTop (mkF m 71 #[.val (.long q1), .second, .val (.long q2), .second, .val (.long q3), .second, .val (.long q4), .second, .val (.long q5), .second, .val (.int p6), .val (.ref b1), .val (.int (p6 &&& (15 : Int32))), .val (.long (own_b p6 (1 : Int32) q1 q5)), .second, .val (.long (own_b p6 (2 : Int32) q2 q5)), .second, .unset, .unset, .unset, .unset, .unset, .unset, .unset] [])) _
      refine XS.lload X2.here hx rfl (hb hby at_71) rfl ?_
      exact kt
    · rw [own_b_neg hdb] at kt
      show Steps p.tables e below (T2.setTop (mkF m 60 #[.val (.long q1), .second, .val (.long q2), .second, .val (.long q3), .second, .val (.long q4), .second, .val (.long q5), .second, .val (.int p6), .val (.ref b1), .val (.int (p6 &&& (15 : Int32))), .val (.long (own_b p6 (1 : Int32) q1 q5)), .second, .val (.long (own_b p6 (2 : Int32) q2 q5)), .second, .unset, .unset, .unset, .unset, .unset, .unset, .unset] [(.int ((p6 &&& (15 : Int32)) &&& (4 : Int32)))])) _
      refine XS.ifNo X2.here hx rfl (hb hby at_60) rfl ((if0 _ _).trans (feq hdb).1) ?_
      show Steps p.tables e below (T2.setTop (mkF m 63 #[.val (.long q1), .second, .val (.long q2), .second, .val (.long q3), .second, .val (.long q4), .second, .val (.long q5), .second, .val (.int p6), .val (.ref b1), .val (.int (p6 &&& (15 : Int32))), .val (.long (own_b p6 (1 : Int32) q1 q5)), .second, .val (.long (own_b p6 (2 : Int32) q2 q5)), .second, .unset, .unset, .unset, .unset, .unset, .unset, .unset] [])) _
      refine XS.lload X2.here hx rfl (hb hby at_63) rfl ?_
      show Steps p.tables e below (T2.setTop (mkF m 65 #[.val (.long q1), .second, .val (.long q2), .second, .val (.long q3), .second, .val (.long q4), .second, .val (.long q5), .second, .val (.int p6), .val (.ref b1), .val (.int (p6 &&& (15 : Int32))), .val (.long (own_b p6 (1 : Int32) q1 q5)), .second, .val (.long (own_b p6 (2 : Int32) q2 q5)), .second, .unset, .unset, .unset, .unset, .unset, .unset, .unset] [(.long q3)])) _
      refine XS.lload X2.here hx rfl (hb hby at_65) rfl ?_
      show Steps p.tables e below (T2.setTop (mkF m 67 #[.val (.long q1), .second, .val (.long q2), .second, .val (.long q3), .second, .val (.long q4), .second, .val (.long q5), .second, .val (.int p6), .val (.ref b1), .val (.int (p6 &&& (15 : Int32))), .val (.long (own_b p6 (1 : Int32) q1 q5)), .second, .val (.long (own_b p6 (2 : Int32) q2 q5)), .second, .unset, .unset, .unset, .unset, .unset, .unset, .unset] [(.long q5), (.long q3)])) _
      refine XS.ladd X2.here hx rfl (hb hby at_67) rfl ?_
      show Steps p.tables e below (T2.setTop (mkF m 68 #[.val (.long q1), .second, .val (.long q2), .second, .val (.long q3), .second, .val (.long q4), .second, .val (.long q5), .second, .val (.int p6), .val (.ref b1), .val (.int (p6 &&& (15 : Int32))), .val (.long (own_b p6 (1 : Int32) q1 q5)), .second, .val (.long (own_b p6 (2 : Int32) q2 q5)), .second, .unset, .unset, .unset, .unset, .unset, .unset, .unset] [(.long (q3 + q5))])) _
      refine XS.goto X2.here hx rfl (pc0 := 68) (pc' := 73) rfl (hb hby at_68) (by decide) (by decide) ?_
      exact kt
  have dm6 : ∀ target, Steps p.tables e below (T2.setTop (mkF m 93 #[.val (.long q1), .second, .val (.long q2), .second, .val (.long q3), .second, .val (.long q4), .second, .val (.long q5), .second, .val (.int p6), .val (.ref b1), .val (.int (p6 &&& (15 : Int32))), .val (.long (own_b p6 (1 : Int32) q1 q5)), .second, .val (.long (own_b p6 (2 : Int32) q2 q5)), .second, .val (.long (own_b p6 (4 : Int32) q3 q5)), .second, .unset, .unset, .unset, .unset, .unset] [(.long (own_b p6 (8 : Int32) q4 q5))])) target → Steps p.tables e below (T2.setTop (mkF m 80 #[.val (.long q1), .second, .val (.long q2), .second, .val (.long q3), .second, .val (.long q4), .second, .val (.long q5), .second, .val (.int p6), .val (.ref b1), .val (.int (p6 &&& (15 : Int32))), .val (.long (own_b p6 (1 : Int32) q1 q5)), .second, .val (.long (own_b p6 (2 : Int32) q2 q5)), .second, .val (.long (own_b p6 (4 : Int32) q3 q5)), .second, .unset, .unset, .unset, .unset, .unset] [(.int ((p6 &&& (15 : Int32)) &&& (8 : Int32)))])) target := by
    intro target kt
    by_cases hdb : ((p6 &&& (15 : Int32)) &&& (8 : Int32)) = (0 : Int32)
    · rw [own_b_pos hdb] at kt
      show Steps p.tables e below (T2.setTop (mkF m 80 #[.val (.long q1), .second, .val (.long q2), .second, .val (.long q3), .second, .val (.long q4), .second, .val (.long q5), .second, .val (.int p6), .val (.ref b1), .val (.int (p6 &&& (15 : Int32))), .val (.long (own_b p6 (1 : Int32) q1 q5)), .second, .val (.long (own_b p6 (2 : Int32) q2 q5)), .second, .val (.long (own_b p6 (4 : Int32) q3 q5)), .second, .unset, .unset, .unset, .unset, .unset] [(.int ((p6 &&& (15 : Int32)) &&& (8 : Int32)))])) _
      refine XS.ifYes X2.here hx rfl (pc0 := 80) (pc' := 91) rfl (hb hby at_80) rfl ((if0 _ _).trans (teq hdb).1) (by decide) (by decide) ?_
      show Steps p.tables e below (T2.setTop (mkF m 91 #[.val (.long q1), .second, .val (.long q2), .second, .val (.long q3), .second, .val (.long q4), .second, .val (.long q5), .second, .val (.int p6), .val (.ref b1), .val (.int (p6 &&& (15 : Int32))), .val (.long (own_b p6 (1 : Int32) q1 q5)), .second, .val (.long (own_b p6 (2 : Int32) q2 q5)), .second, .val (.long (own_b p6 (4 : Int32) q3 q5)), .second, .unset, .unset, .unset, .unset, .unset] [])) _
      refine XS.lload X2.here hx rfl (hb hby at_91) rfl ?_
      exact kt
    · rw [own_b_neg hdb] at kt
      show Steps p.tables e below (T2.setTop (mkF m 80 #[.val (.long q1), .second, .val (.long q2), .second, .val (.long q3), .second, .val (.long q4), .second, .val (.long q5), .second, .val (.int p6), .val (.ref b1), .val (.int (p6 &&& (15 : Int32))), .val (.long (own_b p6 (1 : Int32) q1 q5)), .second, .val (.long (own_b p6 (2 : Int32) q2 q5)), .second, .val (.long (own_b p6 (4 : Int32) q3 q5)), .second, .unset, .unset, .unset, .unset, .unset] [(.int ((p6 &&& (15 : Int32)) &&& (8 : Int32)))])) _
      refine XS.ifNo X2.here hx rfl (hb hby at_80) rfl ((if0 _ _).trans (feq hdb).1) ?_
      show Steps p.tables e below (T2.setTop (mkF m 83 #[.val (.long q1), .second, .val (.long q2), .second, .val (.long q3), .second, .val (.long q4), .second, .val (.long q5), .second, .val (.int p6), .val (.ref b1), .val (.int (p6 &&& (15 : Int32))), .val (.long (own_b p6 (1 : Int32) q1 q5)), .second, .val (.long (own_b p6 (2 : Int32) q2 q5)), .second, .val (.long (own_b p6 (4 : Int32) q3 q5)), .second, .unset, .unset, .unset, .unset, .unset] [])) _
      refine XS.lload X2.here hx rfl (hb hby at_83) rfl ?_
      show Steps p.tables e below (T2.setTop (mkF m 85 #[.val (.long q1), .second, .val (.long q2), .second, .val (.long q3), .second, .val (.long q4), .second, .val (.long q5), .second, .val (.int p6), .val (.ref b1), .val (.int (p6 &&& (15 : Int32))), .val (.long (own_b p6 (1 : Int32) q1 q5)), .second, .val (.long (own_b p6 (2 : Int32) q2 q5)), .second, .val (.long (own_b p6 (4 : Int32) q3 q5)), .second, .unset, .unset, .unset, .unset, .unset] [(.long q4)])) _
      refine XS.lload X2.here hx rfl (hb hby at_85) rfl ?_
      show Steps p.tables e below (T2.setTop (mkF m 87 #[.val (.long q1), .second, .val (.long q2), .second, .val (.long q3), .second, .val (.long q4), .second, .val (.long q5), .second, .val (.int p6), .val (.ref b1), .val (.int (p6 &&& (15 : Int32))), .val (.long (own_b p6 (1 : Int32) q1 q5)), .second, .val (.long (own_b p6 (2 : Int32) q2 q5)), .second, .val (.long (own_b p6 (4 : Int32) q3 q5)), .second, .unset, .unset, .unset, .unset, .unset] [(.long q5), (.long q4)])) _
      refine XS.ladd X2.here hx rfl (hb hby at_87) rfl ?_
      show Steps p.tables e below (T2.setTop (mkF m 88 #[.val (.long q1), .second, .val (.long q2), .second, .val (.long q3), .second, .val (.long q4), .second, .val (.long q5), .second, .val (.int p6), .val (.ref b1), .val (.int (p6 &&& (15 : Int32))), .val (.long (own_b p6 (1 : Int32) q1 q5)), .second, .val (.long (own_b p6 (2 : Int32) q2 q5)), .second, .val (.long (own_b p6 (4 : Int32) q3 q5)), .second, .unset, .unset, .unset, .unset, .unset] [(.long (q4 + q5))])) _
      refine XS.goto X2.here hx rfl (pc0 := 88) (pc' := 93) rfl (hb hby at_88) (by decide) (by decide) ?_
      exact kt
  obtain ⟨T7, h7, X7, e7, E7, A7, D7, -, st7⟩ := newO X2 hx hZ hown (hw _ (List.mem_of_getElem? (i := 0) rfl)) (hw _ (List.mem_of_getElem? (i := 1) rfl)) (hw _ (List.mem_of_getElem? (i := 2) rfl)) rfl (g := (mkF m 95 #[.val (.long q1), .second, .val (.long q2), .second, .val (.long q3), .second, .val (.long q4), .second, .val (.long q5), .second, .val (.int p6), .val (.ref b1), .val (.int (p6 &&& (15 : Int32))), .val (.long (own_b p6 (1 : Int32) q1 q5)), .second, .val (.long (own_b p6 (2 : Int32) q2 q5)), .second, .val (.long (own_b p6 (4 : Int32) q3 q5)), .second, .val (.long (own_b p6 (8 : Int32) q4 q5)), .second, .unset, .unset, .unset] [])) rfl (hb hby at_95) (by decide) (by decide)
  obtain ⟨b7, gq7⟩ : ∃ z, z = T2.heap.size := ⟨_, rfl⟩
  rw [← gq7] at A7 D7 st7
  have g_b7 : n0 ≤ b7 := Nat.le_trans ((O2.1 ▸ O2.2.1) : n0 ≤ T2.heap.size) (Nat.le_of_eq gq7.symm)
  have sz_b7 : h0.size ≤ b7 := Nat.le_trans KK2.1 (Nat.le_of_eq gq7.symm)
  have KK7 : Keep h0 h7 [] := KK2.ext E7
  have O7 := O2.ext E7
  have F_pending_b7 : Fld Z h7 b7 "com/example/bide/bide/QueueCounts" "pending" "J" (.long (0 : Int64)) := D7 (Or.inr (hw _ (List.mem_of_getElem? (i := 10) rfl))) (ty := .long) (by decide)
  have F_due_b7 : Fld Z h7 b7 "com/example/bide/bide/QueueCounts" "due" "J" (.long (0 : Int64)) := D7 (Or.inr (hw _ (List.mem_of_getElem? (i := 12) rfl))) (ty := .long) (by decide)
  have F_leased_b7 : Fld Z h7 b7 "com/example/bide/bide/QueueCounts" "leased" "J" (.long (0 : Int64)) := D7 (Or.inr (hw _ (List.mem_of_getElem? (i := 14) rfl))) (ty := .long) (by decide)
  have F_dead_b7 : Fld Z h7 b7 "com/example/bide/bide/QueueCounts" "dead" "J" (.long (0 : Int64)) := D7 (Or.inr (hw _ (List.mem_of_getElem? (i := 16) rfl))) (ty := .long) (by decide)
  obtain ⟨_, _, ⟨T8, L8, k8, n8⟩, -, X8, ⟨Lc8, hQ8, l8, y8, z8⟩, st8⟩ := X7.specialBack hx (y := (⟨"com/example/bide/bide/QueueCounts", "<init>", "(JJJJ)V"⟩ : MethodName)) rfl hown (mvT hZ (hw _ (List.mem_of_getElem? (i := 3) rfl))) (mvT hZ (hw _ (List.mem_of_getElem? (i := 4) rfl))) (mvT hZ (hw _ (List.mem_of_getElem? (i := 5) rfl))) (by decide) (backOf (W := 1) (rm1_0 l Z a0 hw b7 (own_b p6 (1 : Int32) q1 q5) (own_b p6 (2 : Int32) q2 q5) (own_b p6 (4 : Int32) q3 q5) (own_b p6 (8 : Int32) q4 q5) h7 n0 O7 A7 F_pending_b7 F_due_b7 F_leased_b7 F_dead_b7 g_b7) hZ (hw _ (List.mem_of_getElem? (i := 5) rfl)) (hw _ (List.mem_of_getElem? (i := 2) rfl)) (by decide) (by decide)) (g := (mkF m 107 #[.val (.long q1), .second, .val (.long q2), .second, .val (.long q3), .second, .val (.long q4), .second, .val (.long q5), .second, .val (.int p6), .val (.ref b1), .val (.int (p6 &&& (15 : Int32))), .val (.long (own_b p6 (1 : Int32) q1 q5)), .second, .val (.long (own_b p6 (2 : Int32) q2 q5)), .second, .val (.long (own_b p6 (4 : Int32) q3 q5)), .second, .val (.long (own_b p6 (8 : Int32) q4 q5)), .second, .unset, .unset, .unset] [(.long (own_b p6 (8 : Int32) q4 q5)), (.long (own_b p6 (4 : Int32) q3 q5)), (.long (own_b p6 (2 : Int32) q2 q5)), (.long (own_b p6 (1 : Int32) q1 q5)), (.ref b7), (.ref b7)])) rfl (by rw [hml]; rfl) (Steps.refl _) (a := b7) (argsL := [(.long (own_b p6 (1 : Int32) q1 q5)), (.long (own_b p6 (2 : Int32) q2 q5)), (.long (own_b p6 (4 : Int32) q3 q5)), (.long (own_b p6 (8 : Int32) q4 q5))]) (rest := [(.ref b7)]) (lenOf pd_2 rfl) rfl (by show 2 * 0 + _ ≤ _; exact Nat.le_of_eq rfl) (hb hby at_107) (fun _ _ => ⟨rfl, e7, (by decide : 2 + 0 ≤ _), (by decide : 8 + 0 ≤ _)⟩)
  dsimp only [Pt.U, Pt.locs, Pt.cells, Pt.slots] at X8 l8 y8 z8 st8 hQ8
  subst l8 y8 z8
  obtain ⟨rfl, N8q, K8, f8_0, f8_1, f8_2, f8_3⟩ := hQ8
  have KK8 : Keep h0 T8.heap [] := KK7.trans K8 (allS (Or.inr sz_b7) all0)
  have O8 := O7.keep K8 (allS g_b7 all0)
  have N8 := Fr.app N2 N8q
  have nz9 : b1 ≠ b7 := (Nat.ne_of_lt (Nat.lt_of_lt_of_le (A1.keep K2).lt (Nat.le_of_eq gq7.symm)))
  obtain ⟨cq10, kq10, q10a, q10b, q10c⟩ := isOf hZ rfl (((A1.keep K2).ext E7).keep K8)
  obtain ⟨_, _, ⟨T10, L10, k10, n10⟩, -, X10, ⟨Lc10, hQ10, l10, y10, z10⟩, st10⟩ := X8.virtualBack hx (y := (⟨"com/example/bide/bide/QueueCounts", "equals", "(Ljava/lang/Object;)Z"⟩ : MethodName)) (z := (⟨"com/example/bide/bide/QueueCounts", "equals", "(Ljava/lang/Object;)Z"⟩ : MethodName)) hown (mvT hZ (hw _ (List.mem_of_getElem? (i := 17) rfl))) (mvT hZ (hw _ (List.mem_of_getElem? (i := 18) rfl))) (notFace_of_selects (args := #[]) (mvT hZ (hw _ (List.mem_of_getElem? (i := 20) rfl)))) (mvT hZ (hw _ (List.mem_of_getElem? (i := 20) rfl))) (mvT hZ (hw _ (List.mem_of_getElem? (i := 19) rfl))) (by decide) (backOf (W := 0) (rm3_0 l Z a0 hw b1 b7 q1 (own_b p6 (1 : Int32) q1 q5) q2 (own_b p6 (2 : Int32) q2 q5) q3 (own_b p6 (4 : Int32) q3 q5) q4 (own_b p6 (8 : Int32) q4 q5) T8.heap n0 O8 (A7.keep K8) ((f2_0.ext E7).keep K8 (ninS nz9 nin0)) f8_0 P4 ((f2_1.ext E7).keep K8 (ninS nz9 nin0)) f8_1 P5 ((f2_2.ext E7).keep K8 (ninS nz9 nin0)) f8_2 P6 ((f2_3.ext E7).keep K8 (ninS nz9 nin0)) f8_3 P7) hZ (hw _ (List.mem_of_getElem? (i := 21) rfl)) (hw _ (List.mem_of_getElem? (i := 2) rfl)) (by decide) (by decide)) q10a q10c (g := (mkF m 202 #[.val (.long q1), .second, .val (.long q2), .second, .val (.long q3), .second, .val (.long q4), .second, .val (.long q5), .second, .val (.int p6), .val (.ref b1), .val (.int (p6 &&& (15 : Int32))), .val (.long (own_b p6 (1 : Int32) q1 q5)), .second, .val (.long (own_b p6 (2 : Int32) q2 q5)), .second, .val (.long (own_b p6 (4 : Int32) q3 q5)), .second, .val (.long (own_b p6 (8 : Int32) q4 q5)), .second, .val (.ref b7), .val (.int (0 : Int32)), .val (.int (1 : Int32))] [(.ref b7), (.ref b1)])) rfl (by rw [hml]; rfl) (Steps.refl _) (argsL := [(.ref b7)]) (rest := []) (lenOf pd_4 rfl) rfl (by show 2 * 0 + _ ≤ _; exact Nat.le_of_eq rfl) (hb hby at_202) (fun _ _ => ⟨rfl, rfl, (by decide : 2 + 0 ≤ _), (by decide : 8 + 0 ≤ _)⟩)
  dsimp only [Pt.U, Pt.locs, Pt.cells, Pt.slots] at X10 l10 y10 z10 st10 hQ10
  subst l10 y10 z10
  obtain ⟨rfl, N10q, e10⟩ := hQ10
  have N10 := Fr.app N8 N10q
  obtain ⟨cq11, kq11, q11a, q11b, q11c⟩ := isOf hZ e10 (A7.keep K8)
  obtain ⟨_, _, ⟨T11, L11, k11, n11⟩, -, X11, ⟨Lc11, hQ11, l11, y11, z11⟩, st11⟩ := X10.virtualBack hx (y := (⟨"com/example/bide/bide/QueueCounts", "equals", "(Ljava/lang/Object;)Z"⟩ : MethodName)) (z := (⟨"com/example/bide/bide/QueueCounts", "equals", "(Ljava/lang/Object;)Z"⟩ : MethodName)) hown (mvT hZ (hw _ (List.mem_of_getElem? (i := 17) rfl))) (mvT hZ (hw _ (List.mem_of_getElem? (i := 18) rfl))) (notFace_of_selects (args := #[]) (mvT hZ (hw _ (List.mem_of_getElem? (i := 20) rfl)))) (mvT hZ (hw _ (List.mem_of_getElem? (i := 20) rfl))) (mvT hZ (hw _ (List.mem_of_getElem? (i := 19) rfl))) (by decide) (backOf (W := 0) (rm3_0 l Z a0 hw b7 b1 (own_b p6 (1 : Int32) q1 q5) q1 (own_b p6 (2 : Int32) q2 q5) q2 (own_b p6 (4 : Int32) q3 q5) q3 (own_b p6 (8 : Int32) q4 q5) q4 T8.heap n0 O8 (((A1.keep K2).ext E7).keep K8) f8_0 ((f2_0.ext E7).keep K8 (ninS nz9 nin0)) P8 f8_1 ((f2_1.ext E7).keep K8 (ninS nz9 nin0)) P9 f8_2 ((f2_2.ext E7).keep K8 (ninS nz9 nin0)) P10 f8_3 ((f2_3.ext E7).keep K8 (ninS nz9 nin0)) P11) hZ (hw _ (List.mem_of_getElem? (i := 21) rfl)) (hw _ (List.mem_of_getElem? (i := 2) rfl)) (by decide) (by decide)) q11a q11c (g := (mkF m 214 #[.val (.long q1), .second, .val (.long q2), .second, .val (.long q3), .second, .val (.long q4), .second, .val (.long q5), .second, .val (.int p6), .val (.ref b1), .val (.int (p6 &&& (15 : Int32))), .val (.long (own_b p6 (1 : Int32) q1 q5)), .second, .val (.long (own_b p6 (2 : Int32) q2 q5)), .second, .val (.long (own_b p6 (4 : Int32) q3 q5)), .second, .val (.long (own_b p6 (8 : Int32) q4 q5)), .second, .val (.ref b7), .val (.int (0 : Int32)), .val (.int (1 : Int32))] [(.ref b1), (.ref b7)])) rfl (by rw [hml]; rfl) (Steps.refl _) (argsL := [(.ref b1)]) (rest := []) (lenOf pd_4 rfl) rfl (by show 2 * 0 + _ ≤ _; exact Nat.le_of_eq rfl) (hb hby at_214) (fun _ _ => ⟨rfl, e10, (by decide : 2 + 0 ≤ _), (by decide : 8 + 0 ≤ _)⟩)
  dsimp only [Pt.U, Pt.locs, Pt.cells, Pt.slots] at X11 l11 y11 z11 st11 hQ11
  subst l11 y11 z11
  obtain ⟨rfl, N11q, e11⟩ := hQ11
  have N11 := Fr.app N10 N11q
  obtain ⟨fs, hr, hrun, hended, hW, hsame⟩ := X11.leave (v := some (.int (1 : Int32))) (fun h => by rw [Bd.returns] at h; cases h)
  refine ⟨_, _, pre0 _ ?_, hrun, hended, _, _, rfl, ?_, ⟨_, rfl⟩, hW, hsame.mono (by decide) (by decide)⟩
  · show Steps p.tables e below (s₁.setTop (mkF m 0 #[.val (.long q1), .second, .val (.long q2), .second, .val (.long q3), .second, .val (.long q4), .second, .val (.long q5), .second, .val (.int p6), .unset, .unset, .unset, .unset, .unset, .unset, .unset, .unset, .unset, .unset, .unset, .unset, .unset] [])) _
    refine st1 _ ?_
    show Steps p.tables e below (T1.setTop (mkF m 3 #[.val (.long q1), .second, .val (.long q2), .second, .val (.long q3), .second, .val (.long q4), .second, .val (.long q5), .second, .val (.int p6), .unset, .unset, .unset, .unset, .unset, .unset, .unset, .unset, .unset, .unset, .unset, .unset, .unset] [(.ref b1)])) _
    refine XS.dup X1.here hx rfl (hb hby at_3) rfl rfl ?_
    show Steps p.tables e below (T1.setTop (mkF m 4 #[.val (.long q1), .second, .val (.long q2), .second, .val (.long q3), .second, .val (.long q4), .second, .val (.long q5), .second, .val (.int p6), .unset, .unset, .unset, .unset, .unset, .unset, .unset, .unset, .unset, .unset, .unset, .unset, .unset] [(.ref b1), (.ref b1)])) _
    refine XS.lloadN X1.here hx rfl (hb hby at_4) rfl ?_
    show Steps p.tables e below (T1.setTop (mkF m 5 #[.val (.long q1), .second, .val (.long q2), .second, .val (.long q3), .second, .val (.long q4), .second, .val (.long q5), .second, .val (.int p6), .unset, .unset, .unset, .unset, .unset, .unset, .unset, .unset, .unset, .unset, .unset, .unset, .unset] [(.long q1), (.ref b1), (.ref b1)])) _
    refine XS.lloadN X1.here hx rfl (hb hby at_5) rfl ?_
    show Steps p.tables e below (T1.setTop (mkF m 6 #[.val (.long q1), .second, .val (.long q2), .second, .val (.long q3), .second, .val (.long q4), .second, .val (.long q5), .second, .val (.int p6), .unset, .unset, .unset, .unset, .unset, .unset, .unset, .unset, .unset, .unset, .unset, .unset, .unset] [(.long q2), (.long q1), (.ref b1), (.ref b1)])) _
    refine XS.lload X1.here hx rfl (hb hby at_6) rfl ?_
    show Steps p.tables e below (T1.setTop (mkF m 8 #[.val (.long q1), .second, .val (.long q2), .second, .val (.long q3), .second, .val (.long q4), .second, .val (.long q5), .second, .val (.int p6), .unset, .unset, .unset, .unset, .unset, .unset, .unset, .unset, .unset, .unset, .unset, .unset, .unset] [(.long q3), (.long q2), (.long q1), (.ref b1), (.ref b1)])) _
    refine XS.lload X1.here hx rfl (hb hby at_8) rfl ?_
    show Steps p.tables e below (T1.setTop (mkF m 10 #[.val (.long q1), .second, .val (.long q2), .second, .val (.long q3), .second, .val (.long q4), .second, .val (.long q5), .second, .val (.int p6), .unset, .unset, .unset, .unset, .unset, .unset, .unset, .unset, .unset, .unset, .unset, .unset, .unset] [(.long q4), (.long q3), (.long q2), (.long q1), (.ref b1), (.ref b1)])) _
    refine st2.trans ?_
    show Steps p.tables e below (T2.setTop (mkF m 13 #[.val (.long q1), .second, .val (.long q2), .second, .val (.long q3), .second, .val (.long q4), .second, .val (.long q5), .second, .val (.int p6), .unset, .unset, .unset, .unset, .unset, .unset, .unset, .unset, .unset, .unset, .unset, .unset, .unset] [(.ref b1)])) _
    refine XS.astore X2.here hx rfl (hb hby at_13) rfl rfl (l' := #[.val (.long q1), .second, .val (.long q2), .second, .val (.long q3), .second, .val (.long q4), .second, .val (.long q5), .second, .val (.int p6), .val (.ref b1), .unset, .unset, .unset, .unset, .unset, .unset, .unset, .unset, .unset, .unset, .unset, .unset]) rfl ?_
    show Steps p.tables e below (T2.setTop (mkF m 15 #[.val (.long q1), .second, .val (.long q2), .second, .val (.long q3), .second, .val (.long q4), .second, .val (.long q5), .second, .val (.int p6), .val (.ref b1), .unset, .unset, .unset, .unset, .unset, .unset, .unset, .unset, .unset, .unset, .unset, .unset] [])) _
    refine XS.iload X2.here hx rfl (hb hby at_15) rfl ?_
    show Steps p.tables e below (T2.setTop (mkF m 17 #[.val (.long q1), .second, .val (.long q2), .second, .val (.long q3), .second, .val (.long q4), .second, .val (.long q5), .second, .val (.int p6), .val (.ref b1), .unset, .unset, .unset, .unset, .unset, .unset, .unset, .unset, .unset, .unset, .unset, .unset] [(.int p6)])) _
    refine XS.bipush X2.here hx rfl (hb hby at_17) ?_
    show Steps p.tables e below (T2.setTop (mkF m 19 #[.val (.long q1), .second, .val (.long q2), .second, .val (.long q3), .second, .val (.long q4), .second, .val (.long q5), .second, .val (.int p6), .val (.ref b1), .unset, .unset, .unset, .unset, .unset, .unset, .unset, .unset, .unset, .unset, .unset, .unset] [(.int (15 : Int32)), (.int p6)])) _
    refine XS.iand X2.here hx rfl (hb hby at_19) rfl ?_
    show Steps p.tables e below (T2.setTop (mkF m 20 #[.val (.long q1), .second, .val (.long q2), .second, .val (.long q3), .second, .val (.long q4), .second, .val (.long q5), .second, .val (.int p6), .val (.ref b1), .unset, .unset, .unset, .unset, .unset, .unset, .unset, .unset, .unset, .unset, .unset, .unset] [(.int (p6 &&& (15 : Int32)))])) _
    refine XS.istore X2.here hx rfl (hb hby at_20) rfl (l' := #[.val (.long q1), .second, .val (.long q2), .second, .val (.long q3), .second, .val (.long q4), .second, .val (.long q5), .second, .val (.int p6), .val (.ref b1), .val (.int (p6 &&& (15 : Int32))), .unset, .unset, .unset, .unset, .unset, .unset, .unset, .unset, .unset, .unset, .unset]) rfl ?_
    show Steps p.tables e below (T2.setTop (mkF m 22 #[.val (.long q1), .second, .val (.long q2), .second, .val (.long q3), .second, .val (.long q4), .second, .val (.long q5), .second, .val (.int p6), .val (.ref b1), .val (.int (p6 &&& (15 : Int32))), .unset, .unset, .unset, .unset, .unset, .unset, .unset, .unset, .unset, .unset, .unset] [])) _
    refine XS.iload X2.here hx rfl (hb hby at_22) rfl ?_
    show Steps p.tables e below (T2.setTop (mkF m 24 #[.val (.long q1), .second, .val (.long q2), .second, .val (.long q3), .second, .val (.long q4), .second, .val (.long q5), .second, .val (.int p6), .val (.ref b1), .val (.int (p6 &&& (15 : Int32))), .unset, .unset, .unset, .unset, .unset, .unset, .unset, .unset, .unset, .unset, .unset] [(.int (p6 &&& (15 : Int32)))])) _
    refine XS.iconst X2.here hx rfl (hb hby at_24) ?_
    show Steps p.tables e below (T2.setTop (mkF m 25 #[.val (.long q1), .second, .val (.long q2), .second, .val (.long q3), .second, .val (.long q4), .second, .val (.long q5), .second, .val (.int p6), .val (.ref b1), .val (.int (p6 &&& (15 : Int32))), .unset, .unset, .unset, .unset, .unset, .unset, .unset, .unset, .unset, .unset, .unset] [(.int (1 : Int32)), (.int (p6 &&& (15 : Int32)))])) _
    refine XS.iand X2.here hx rfl (hb hby at_25) rfl ?_
    show Steps p.tables e below (T2.setTop (mkF m 26 #[.val (.long q1), .second, .val (.long q2), .second, .val (.long q3), .second, .val (.long q4), .second, .val (.long q5), .second, .val (.int p6), .val (.ref b1), .val (.int (p6 &&& (15 : Int32))), .unset, .unset, .unset, .unset, .unset, .unset, .unset, .unset, .unset, .unset, .unset] [(.int ((p6 &&& (15 : Int32)) &&& (1 : Int32)))])) _
    refine dm3 _ ?_
    show Steps p.tables e below (T2.setTop (mkF m 37 #[.val (.long q1), .second, .val (.long q2), .second, .val (.long q3), .second, .val (.long q4), .second, .val (.long q5), .second, .val (.int p6), .val (.ref b1), .val (.int (p6 &&& (15 : Int32))), .unset, .unset, .unset, .unset, .unset, .unset, .unset, .unset, .unset, .unset, .unset] [(.long (own_b p6 (1 : Int32) q1 q5))])) _
    refine XS.lstore X2.here hx rfl (hb hby at_37) rfl (l' := #[.val (.long q1), .second, .val (.long q2), .second, .val (.long q3), .second, .val (.long q4), .second, .val (.long q5), .second, .val (.int p6), .val (.ref b1), .val (.int (p6 &&& (15 : Int32))), .val (.long (own_b p6 (1 : Int32) q1 q5)), .second, .unset, .unset, .unset, .unset, .unset, .unset, .unset, .unset, .unset]) rfl ?_
    show Steps p.tables e below (T2.setTop (mkF m 39 #[.val (.long q1), .second, .val (.long q2), .second, .val (.long q3), .second, .val (.long q4), .second, .val (.long q5), .second, .val (.int p6), .val (.ref b1), .val (.int (p6 &&& (15 : Int32))), .val (.long (own_b p6 (1 : Int32) q1 q5)), .second, .unset, .unset, .unset, .unset, .unset, .unset, .unset, .unset, .unset] [])) _
    refine XS.iload X2.here hx rfl (hb hby at_39) rfl ?_
    show Steps p.tables e below (T2.setTop (mkF m 41 #[.val (.long q1), .second, .val (.long q2), .second, .val (.long q3), .second, .val (.long q4), .second, .val (.long q5), .second, .val (.int p6), .val (.ref b1), .val (.int (p6 &&& (15 : Int32))), .val (.long (own_b p6 (1 : Int32) q1 q5)), .second, .unset, .unset, .unset, .unset, .unset, .unset, .unset, .unset, .unset] [(.int (p6 &&& (15 : Int32)))])) _
    refine XS.iconst X2.here hx rfl (hb hby at_41) ?_
    show Steps p.tables e below (T2.setTop (mkF m 42 #[.val (.long q1), .second, .val (.long q2), .second, .val (.long q3), .second, .val (.long q4), .second, .val (.long q5), .second, .val (.int p6), .val (.ref b1), .val (.int (p6 &&& (15 : Int32))), .val (.long (own_b p6 (1 : Int32) q1 q5)), .second, .unset, .unset, .unset, .unset, .unset, .unset, .unset, .unset, .unset] [(.int (2 : Int32)), (.int (p6 &&& (15 : Int32)))])) _
    refine XS.iand X2.here hx rfl (hb hby at_42) rfl ?_
    show Steps p.tables e below (T2.setTop (mkF m 43 #[.val (.long q1), .second, .val (.long q2), .second, .val (.long q3), .second, .val (.long q4), .second, .val (.long q5), .second, .val (.int p6), .val (.ref b1), .val (.int (p6 &&& (15 : Int32))), .val (.long (own_b p6 (1 : Int32) q1 q5)), .second, .unset, .unset, .unset, .unset, .unset, .unset, .unset, .unset, .unset] [(.int ((p6 &&& (15 : Int32)) &&& (2 : Int32)))])) _
    refine dm4 _ ?_
    show Steps p.tables e below (T2.setTop (mkF m 54 #[.val (.long q1), .second, .val (.long q2), .second, .val (.long q3), .second, .val (.long q4), .second, .val (.long q5), .second, .val (.int p6), .val (.ref b1), .val (.int (p6 &&& (15 : Int32))), .val (.long (own_b p6 (1 : Int32) q1 q5)), .second, .unset, .unset, .unset, .unset, .unset, .unset, .unset, .unset, .unset] [(.long (own_b p6 (2 : Int32) q2 q5))])) _
    refine XS.lstore X2.here hx rfl (hb hby at_54) rfl (l' := #[.val (.long q1), .second, .val (.long q2), .second, .val (.long q3), .second, .val (.long q4), .second, .val (.long q5), .second, .val (.int p6), .val (.ref b1), .val (.int (p6 &&& (15 : Int32))), .val (.long (own_b p6 (1 : Int32) q1 q5)), .second, .val (.long (own_b p6 (2 : Int32) q2 q5)), .second, .unset, .unset, .unset, .unset, .unset, .unset, .unset]) rfl ?_
    show Steps p.tables e below (T2.setTop (mkF m 56 #[.val (.long q1), .second, .val (.long q2), .second, .val (.long q3), .second, .val (.long q4), .second, .val (.long q5), .second, .val (.int p6), .val (.ref b1), .val (.int (p6 &&& (15 : Int32))), .val (.long (own_b p6 (1 : Int32) q1 q5)), .second, .val (.long (own_b p6 (2 : Int32) q2 q5)), .second, .unset, .unset, .unset, .unset, .unset, .unset, .unset] [])) _
    refine XS.iload X2.here hx rfl (hb hby at_56) rfl ?_
    show Steps p.tables e below (T2.setTop (mkF m 58 #[.val (.long q1), .second, .val (.long q2), .second, .val (.long q3), .second, .val (.long q4), .second, .val (.long q5), .second, .val (.int p6), .val (.ref b1), .val (.int (p6 &&& (15 : Int32))), .val (.long (own_b p6 (1 : Int32) q1 q5)), .second, .val (.long (own_b p6 (2 : Int32) q2 q5)), .second, .unset, .unset, .unset, .unset, .unset, .unset, .unset] [(.int (p6 &&& (15 : Int32)))])) _
    refine XS.iconst X2.here hx rfl (hb hby at_58) ?_
    show Steps p.tables e below (T2.setTop (mkF m 59 #[.val (.long q1), .second, .val (.long q2), .second, .val (.long q3), .second, .val (.long q4), .second, .val (.long q5), .second, .val (.int p6), .val (.ref b1), .val (.int (p6 &&& (15 : Int32))), .val (.long (own_b p6 (1 : Int32) q1 q5)), .second, .val (.long (own_b p6 (2 : Int32) q2 q5)), .second, .unset, .unset, .unset, .unset, .unset, .unset, .unset] [(.int (4 : Int32)), (.int (p6 &&& (15 : Int32)))])) _
    refine XS.iand X2.here hx rfl (hb hby at_59) rfl ?_
    show Steps p.tables e below (T2.setTop (mkF m 60 #[.val (.long q1), .second, .val (.long q2), .second, .val (.long q3), .second, .val (.long q4), .second, .val (.long q5), .second, .val (.int p6), .val (.ref b1), .val (.int (p6 &&& (15 : Int32))), .val (.long (own_b p6 (1 : Int32) q1 q5)), .second, .val (.long (own_b p6 (2 : Int32) q2 q5)), .second, .unset, .unset, .unset, .unset, .unset, .unset, .unset] [(.int ((p6 &&& (15 : Int32)) &&& (4 : Int32)))])) _
    refine dm5 _ ?_
    show Steps p.tables e below (T2.setTop (mkF m 73 #[.val (.long q1), .second, .val (.long q2), .second, .val (.long q3), .second, .val (.long q4), .second, .val (.long q5), .second, .val (.int p6), .val (.ref b1), .val (.int (p6 &&& (15 : Int32))), .val (.long (own_b p6 (1 : Int32) q1 q5)), .second, .val (.long (own_b p6 (2 : Int32) q2 q5)), .second, .unset, .unset, .unset, .unset, .unset, .unset, .unset] [(.long (own_b p6 (4 : Int32) q3 q5))])) _
    refine XS.lstore X2.here hx rfl (hb hby at_73) rfl (l' := #[.val (.long q1), .second, .val (.long q2), .second, .val (.long q3), .second, .val (.long q4), .second, .val (.long q5), .second, .val (.int p6), .val (.ref b1), .val (.int (p6 &&& (15 : Int32))), .val (.long (own_b p6 (1 : Int32) q1 q5)), .second, .val (.long (own_b p6 (2 : Int32) q2 q5)), .second, .val (.long (own_b p6 (4 : Int32) q3 q5)), .second, .unset, .unset, .unset, .unset, .unset]) rfl ?_
    show Steps p.tables e below (T2.setTop (mkF m 75 #[.val (.long q1), .second, .val (.long q2), .second, .val (.long q3), .second, .val (.long q4), .second, .val (.long q5), .second, .val (.int p6), .val (.ref b1), .val (.int (p6 &&& (15 : Int32))), .val (.long (own_b p6 (1 : Int32) q1 q5)), .second, .val (.long (own_b p6 (2 : Int32) q2 q5)), .second, .val (.long (own_b p6 (4 : Int32) q3 q5)), .second, .unset, .unset, .unset, .unset, .unset] [])) _
    refine XS.iload X2.here hx rfl (hb hby at_75) rfl ?_
    show Steps p.tables e below (T2.setTop (mkF m 77 #[.val (.long q1), .second, .val (.long q2), .second, .val (.long q3), .second, .val (.long q4), .second, .val (.long q5), .second, .val (.int p6), .val (.ref b1), .val (.int (p6 &&& (15 : Int32))), .val (.long (own_b p6 (1 : Int32) q1 q5)), .second, .val (.long (own_b p6 (2 : Int32) q2 q5)), .second, .val (.long (own_b p6 (4 : Int32) q3 q5)), .second, .unset, .unset, .unset, .unset, .unset] [(.int (p6 &&& (15 : Int32)))])) _
    refine XS.bipush X2.here hx rfl (hb hby at_77) ?_
    show Steps p.tables e below (T2.setTop (mkF m 79 #[.val (.long q1), .second, .val (.long q2), .second, .val (.long q3), .second, .val (.long q4), .second, .val (.long q5), .second, .val (.int p6), .val (.ref b1), .val (.int (p6 &&& (15 : Int32))), .val (.long (own_b p6 (1 : Int32) q1 q5)), .second, .val (.long (own_b p6 (2 : Int32) q2 q5)), .second, .val (.long (own_b p6 (4 : Int32) q3 q5)), .second, .unset, .unset, .unset, .unset, .unset] [(.int (8 : Int32)), (.int (p6 &&& (15 : Int32)))])) _
    refine XS.iand X2.here hx rfl (hb hby at_79) rfl ?_
    show Steps p.tables e below (T2.setTop (mkF m 80 #[.val (.long q1), .second, .val (.long q2), .second, .val (.long q3), .second, .val (.long q4), .second, .val (.long q5), .second, .val (.int p6), .val (.ref b1), .val (.int (p6 &&& (15 : Int32))), .val (.long (own_b p6 (1 : Int32) q1 q5)), .second, .val (.long (own_b p6 (2 : Int32) q2 q5)), .second, .val (.long (own_b p6 (4 : Int32) q3 q5)), .second, .unset, .unset, .unset, .unset, .unset] [(.int ((p6 &&& (15 : Int32)) &&& (8 : Int32)))])) _
    refine dm6 _ ?_
    show Steps p.tables e below (T2.setTop (mkF m 93 #[.val (.long q1), .second, .val (.long q2), .second, .val (.long q3), .second, .val (.long q4), .second, .val (.long q5), .second, .val (.int p6), .val (.ref b1), .val (.int (p6 &&& (15 : Int32))), .val (.long (own_b p6 (1 : Int32) q1 q5)), .second, .val (.long (own_b p6 (2 : Int32) q2 q5)), .second, .val (.long (own_b p6 (4 : Int32) q3 q5)), .second, .unset, .unset, .unset, .unset, .unset] [(.long (own_b p6 (8 : Int32) q4 q5))])) _
    refine XS.lstore X2.here hx rfl (hb hby at_93) rfl (l' := #[.val (.long q1), .second, .val (.long q2), .second, .val (.long q3), .second, .val (.long q4), .second, .val (.long q5), .second, .val (.int p6), .val (.ref b1), .val (.int (p6 &&& (15 : Int32))), .val (.long (own_b p6 (1 : Int32) q1 q5)), .second, .val (.long (own_b p6 (2 : Int32) q2 q5)), .second, .val (.long (own_b p6 (4 : Int32) q3 q5)), .second, .val (.long (own_b p6 (8 : Int32) q4 q5)), .second, .unset, .unset, .unset]) rfl ?_
    show Steps p.tables e below (T2.setTop (mkF m 95 #[.val (.long q1), .second, .val (.long q2), .second, .val (.long q3), .second, .val (.long q4), .second, .val (.long q5), .second, .val (.int p6), .val (.ref b1), .val (.int (p6 &&& (15 : Int32))), .val (.long (own_b p6 (1 : Int32) q1 q5)), .second, .val (.long (own_b p6 (2 : Int32) q2 q5)), .second, .val (.long (own_b p6 (4 : Int32) q3 q5)), .second, .val (.long (own_b p6 (8 : Int32) q4 q5)), .second, .unset, .unset, .unset] [])) _
    refine st7 _ ?_
    show Steps p.tables e below (T7.setTop (mkF m 98 #[.val (.long q1), .second, .val (.long q2), .second, .val (.long q3), .second, .val (.long q4), .second, .val (.long q5), .second, .val (.int p6), .val (.ref b1), .val (.int (p6 &&& (15 : Int32))), .val (.long (own_b p6 (1 : Int32) q1 q5)), .second, .val (.long (own_b p6 (2 : Int32) q2 q5)), .second, .val (.long (own_b p6 (4 : Int32) q3 q5)), .second, .val (.long (own_b p6 (8 : Int32) q4 q5)), .second, .unset, .unset, .unset] [(.ref b7)])) _
    refine XS.dup X7.here hx rfl (hb hby at_98) rfl rfl ?_
    show Steps p.tables e below (T7.setTop (mkF m 99 #[.val (.long q1), .second, .val (.long q2), .second, .val (.long q3), .second, .val (.long q4), .second, .val (.long q5), .second, .val (.int p6), .val (.ref b1), .val (.int (p6 &&& (15 : Int32))), .val (.long (own_b p6 (1 : Int32) q1 q5)), .second, .val (.long (own_b p6 (2 : Int32) q2 q5)), .second, .val (.long (own_b p6 (4 : Int32) q3 q5)), .second, .val (.long (own_b p6 (8 : Int32) q4 q5)), .second, .unset, .unset, .unset] [(.ref b7), (.ref b7)])) _
    refine XS.lload X7.here hx rfl (hb hby at_99) rfl ?_
    show Steps p.tables e below (T7.setTop (mkF m 101 #[.val (.long q1), .second, .val (.long q2), .second, .val (.long q3), .second, .val (.long q4), .second, .val (.long q5), .second, .val (.int p6), .val (.ref b1), .val (.int (p6 &&& (15 : Int32))), .val (.long (own_b p6 (1 : Int32) q1 q5)), .second, .val (.long (own_b p6 (2 : Int32) q2 q5)), .second, .val (.long (own_b p6 (4 : Int32) q3 q5)), .second, .val (.long (own_b p6 (8 : Int32) q4 q5)), .second, .unset, .unset, .unset] [(.long (own_b p6 (1 : Int32) q1 q5)), (.ref b7), (.ref b7)])) _
    refine XS.lload X7.here hx rfl (hb hby at_101) rfl ?_
    show Steps p.tables e below (T7.setTop (mkF m 103 #[.val (.long q1), .second, .val (.long q2), .second, .val (.long q3), .second, .val (.long q4), .second, .val (.long q5), .second, .val (.int p6), .val (.ref b1), .val (.int (p6 &&& (15 : Int32))), .val (.long (own_b p6 (1 : Int32) q1 q5)), .second, .val (.long (own_b p6 (2 : Int32) q2 q5)), .second, .val (.long (own_b p6 (4 : Int32) q3 q5)), .second, .val (.long (own_b p6 (8 : Int32) q4 q5)), .second, .unset, .unset, .unset] [(.long (own_b p6 (2 : Int32) q2 q5)), (.long (own_b p6 (1 : Int32) q1 q5)), (.ref b7), (.ref b7)])) _
    refine XS.lload X7.here hx rfl (hb hby at_103) rfl ?_
    show Steps p.tables e below (T7.setTop (mkF m 105 #[.val (.long q1), .second, .val (.long q2), .second, .val (.long q3), .second, .val (.long q4), .second, .val (.long q5), .second, .val (.int p6), .val (.ref b1), .val (.int (p6 &&& (15 : Int32))), .val (.long (own_b p6 (1 : Int32) q1 q5)), .second, .val (.long (own_b p6 (2 : Int32) q2 q5)), .second, .val (.long (own_b p6 (4 : Int32) q3 q5)), .second, .val (.long (own_b p6 (8 : Int32) q4 q5)), .second, .unset, .unset, .unset] [(.long (own_b p6 (4 : Int32) q3 q5)), (.long (own_b p6 (2 : Int32) q2 q5)), (.long (own_b p6 (1 : Int32) q1 q5)), (.ref b7), (.ref b7)])) _
    refine XS.lload X7.here hx rfl (hb hby at_105) rfl ?_
    show Steps p.tables e below (T7.setTop (mkF m 107 #[.val (.long q1), .second, .val (.long q2), .second, .val (.long q3), .second, .val (.long q4), .second, .val (.long q5), .second, .val (.int p6), .val (.ref b1), .val (.int (p6 &&& (15 : Int32))), .val (.long (own_b p6 (1 : Int32) q1 q5)), .second, .val (.long (own_b p6 (2 : Int32) q2 q5)), .second, .val (.long (own_b p6 (4 : Int32) q3 q5)), .second, .val (.long (own_b p6 (8 : Int32) q4 q5)), .second, .unset, .unset, .unset] [(.long (own_b p6 (8 : Int32) q4 q5)), (.long (own_b p6 (4 : Int32) q3 q5)), (.long (own_b p6 (2 : Int32) q2 q5)), (.long (own_b p6 (1 : Int32) q1 q5)), (.ref b7), (.ref b7)])) _
    refine st8.trans ?_
    show Steps p.tables e below (T8.setTop (mkF m 110 #[.val (.long q1), .second, .val (.long q2), .second, .val (.long q3), .second, .val (.long q4), .second, .val (.long q5), .second, .val (.int p6), .val (.ref b1), .val (.int (p6 &&& (15 : Int32))), .val (.long (own_b p6 (1 : Int32) q1 q5)), .second, .val (.long (own_b p6 (2 : Int32) q2 q5)), .second, .val (.long (own_b p6 (4 : Int32) q3 q5)), .second, .val (.long (own_b p6 (8 : Int32) q4 q5)), .second, .unset, .unset, .unset] [(.ref b7)])) _
    refine XS.astore X8.here hx rfl (hb hby at_110) rfl rfl (l' := #[.val (.long q1), .second, .val (.long q2), .second, .val (.long q3), .second, .val (.long q4), .second, .val (.long q5), .second, .val (.int p6), .val (.ref b1), .val (.int (p6 &&& (15 : Int32))), .val (.long (own_b p6 (1 : Int32) q1 q5)), .second, .val (.long (own_b p6 (2 : Int32) q2 q5)), .second, .val (.long (own_b p6 (4 : Int32) q3 q5)), .second, .val (.long (own_b p6 (8 : Int32) q4 q5)), .second, .val (.ref b7), .unset, .unset]) rfl ?_
    show Steps p.tables e below (T8.setTop (mkF m 112 #[.val (.long q1), .second, .val (.long q2), .second, .val (.long q3), .second, .val (.long q4), .second, .val (.long q5), .second, .val (.int p6), .val (.ref b1), .val (.int (p6 &&& (15 : Int32))), .val (.long (own_b p6 (1 : Int32) q1 q5)), .second, .val (.long (own_b p6 (2 : Int32) q2 q5)), .second, .val (.long (own_b p6 (4 : Int32) q3 q5)), .second, .val (.long (own_b p6 (8 : Int32) q4 q5)), .second, .val (.ref b7), .unset, .unset] [])) _
    refine XS.iload X8.here hx rfl (hb hby at_112) rfl ?_
    show Steps p.tables e below (T8.setTop (mkF m 114 #[.val (.long q1), .second, .val (.long q2), .second, .val (.long q3), .second, .val (.long q4), .second, .val (.long q5), .second, .val (.int p6), .val (.ref b1), .val (.int (p6 &&& (15 : Int32))), .val (.long (own_b p6 (1 : Int32) q1 q5)), .second, .val (.long (own_b p6 (2 : Int32) q2 q5)), .second, .val (.long (own_b p6 (4 : Int32) q3 q5)), .second, .val (.long (own_b p6 (8 : Int32) q4 q5)), .second, .val (.ref b7), .unset, .unset] [(.int p6)])) _
    refine XS.iconst X8.here hx rfl (hb hby at_114) ?_
    show Steps p.tables e below (T8.setTop (mkF m 115 #[.val (.long q1), .second, .val (.long q2), .second, .val (.long q3), .second, .val (.long q4), .second, .val (.long q5), .second, .val (.int p6), .val (.ref b1), .val (.int (p6 &&& (15 : Int32))), .val (.long (own_b p6 (1 : Int32) q1 q5)), .second, .val (.long (own_b p6 (2 : Int32) q2 q5)), .second, .val (.long (own_b p6 (4 : Int32) q3 q5)), .second, .val (.long (own_b p6 (8 : Int32) q4 q5)), .second, .val (.ref b7), .unset, .unset] [(.int (4 : Int32)), (.int p6)])) _
    refine XS.iushr X8.here hx rfl (hb hby at_115) rfl ?_
    show Steps p.tables e below (T8.setTop (mkF m 116 #[.val (.long q1), .second, .val (.long q2), .second, .val (.long q3), .second, .val (.long q4), .second, .val (.long q5), .second, .val (.int p6), .val (.ref b1), .val (.int (p6 &&& (15 : Int32))), .val (.long (own_b p6 (1 : Int32) q1 q5)), .second, .val (.long (own_b p6 (2 : Int32) q2 q5)), .second, .val (.long (own_b p6 (4 : Int32) q3 q5)), .second, .val (.long (own_b p6 (8 : Int32) q4 q5)), .second, .val (.ref b7), .unset, .unset] [(.int ((p6.toUInt32 >>> ((4 : Int32) &&& 31).toUInt32).toInt32))])) _
    refine XS.iconst X8.here hx rfl (hb hby at_116) ?_
    show Steps p.tables e below (T8.setTop (mkF m 117 #[.val (.long q1), .second, .val (.long q2), .second, .val (.long q3), .second, .val (.long q4), .second, .val (.long q5), .second, .val (.int p6), .val (.ref b1), .val (.int (p6 &&& (15 : Int32))), .val (.long (own_b p6 (1 : Int32) q1 q5)), .second, .val (.long (own_b p6 (2 : Int32) q2 q5)), .second, .val (.long (own_b p6 (4 : Int32) q3 q5)), .second, .val (.long (own_b p6 (8 : Int32) q4 q5)), .second, .val (.ref b7), .unset, .unset] [(.int (3 : Int32)), (.int ((p6.toUInt32 >>> ((4 : Int32) &&& 31).toUInt32).toInt32))])) _
    refine XS.iand X8.here hx rfl (hb hby at_117) rfl ?_
    show Steps p.tables e below (T8.setTop (mkF m 118 #[.val (.long q1), .second, .val (.long q2), .second, .val (.long q3), .second, .val (.long q4), .second, .val (.long q5), .second, .val (.int p6), .val (.ref b1), .val (.int (p6 &&& (15 : Int32))), .val (.long (own_b p6 (1 : Int32) q1 q5)), .second, .val (.long (own_b p6 (2 : Int32) q2 q5)), .second, .val (.long (own_b p6 (4 : Int32) q3 q5)), .second, .val (.long (own_b p6 (8 : Int32) q4 q5)), .second, .val (.ref b7), .unset, .unset] [(.int (((p6.toUInt32 >>> ((4 : Int32) &&& 31).toUInt32).toInt32) &&& (3 : Int32)))])) _
    rw [P1]
    show Steps p.tables e below (T8.setTop (mkF m 118 #[.val (.long q1), .second, .val (.long q2), .second, .val (.long q3), .second, .val (.long q4), .second, .val (.long q5), .second, .val (.int p6), .val (.ref b1), .val (.int (p6 &&& (15 : Int32))), .val (.long (own_b p6 (1 : Int32) q1 q5)), .second, .val (.long (own_b p6 (2 : Int32) q2 q5)), .second, .val (.long (own_b p6 (4 : Int32) q3 q5)), .second, .val (.long (own_b p6 (8 : Int32) q4 q5)), .second, .val (.ref b7), .unset, .unset] [(.int (0 : Int32))])) _
    refine XS.istore X8.here hx rfl (hb hby at_118) rfl (l' := #[.val (.long q1), .second, .val (.long q2), .second, .val (.long q3), .second, .val (.long q4), .second, .val (.long q5), .second, .val (.int p6), .val (.ref b1), .val (.int (p6 &&& (15 : Int32))), .val (.long (own_b p6 (1 : Int32) q1 q5)), .second, .val (.long (own_b p6 (2 : Int32) q2 q5)), .second, .val (.long (own_b p6 (4 : Int32) q3 q5)), .second, .val (.long (own_b p6 (8 : Int32) q4 q5)), .second, .val (.ref b7), .val (.int (0 : Int32)), .unset]) rfl ?_
    show Steps p.tables e below (T8.setTop (mkF m 120 #[.val (.long q1), .second, .val (.long q2), .second, .val (.long q3), .second, .val (.long q4), .second, .val (.long q5), .second, .val (.int p6), .val (.ref b1), .val (.int (p6 &&& (15 : Int32))), .val (.long (own_b p6 (1 : Int32) q1 q5)), .second, .val (.long (own_b p6 (2 : Int32) q2 q5)), .second, .val (.long (own_b p6 (4 : Int32) q3 q5)), .second, .val (.long (own_b p6 (8 : Int32) q4 q5)), .second, .val (.ref b7), .val (.int (0 : Int32)), .unset] [])) _
    refine XS.iload X8.here hx rfl (hb hby at_120) rfl ?_
    show Steps p.tables e below (T8.setTop (mkF m 122 #[.val (.long q1), .second, .val (.long q2), .second, .val (.long q3), .second, .val (.long q4), .second, .val (.long q5), .second, .val (.int p6), .val (.ref b1), .val (.int (p6 &&& (15 : Int32))), .val (.long (own_b p6 (1 : Int32) q1 q5)), .second, .val (.long (own_b p6 (2 : Int32) q2 q5)), .second, .val (.long (own_b p6 (4 : Int32) q3 q5)), .second, .val (.long (own_b p6 (8 : Int32) q4 q5)), .second, .val (.ref b7), .val (.int (0 : Int32)), .unset] [(.int (0 : Int32))])) _
    refine XS.iconst X8.here hx rfl (hb hby at_122) ?_
    show Steps p.tables e below (T8.setTop (mkF m 123 #[.val (.long q1), .second, .val (.long q2), .second, .val (.long q3), .second, .val (.long q4), .second, .val (.long q5), .second, .val (.int p6), .val (.ref b1), .val (.int (p6 &&& (15 : Int32))), .val (.long (own_b p6 (1 : Int32) q1 q5)), .second, .val (.long (own_b p6 (2 : Int32) q2 q5)), .second, .val (.long (own_b p6 (4 : Int32) q3 q5)), .second, .val (.long (own_b p6 (8 : Int32) q4 q5)), .second, .val (.ref b7), .val (.int (0 : Int32)), .unset] [(.int (1 : Int32)), (.int (0 : Int32))])) _
    refine XS.icmpYes X8.here hx rfl (pc0 := 123) (pc' := 141) rfl (hb hby at_123) rfl (by decide) (by decide) (by decide) ?_
    show Steps p.tables e below (T8.setTop (mkF m 141 #[.val (.long q1), .second, .val (.long q2), .second, .val (.long q3), .second, .val (.long q4), .second, .val (.long q5), .second, .val (.int p6), .val (.ref b1), .val (.int (p6 &&& (15 : Int32))), .val (.long (own_b p6 (1 : Int32) q1 q5)), .second, .val (.long (own_b p6 (2 : Int32) q2 q5)), .second, .val (.long (own_b p6 (4 : Int32) q3 q5)), .second, .val (.long (own_b p6 (8 : Int32) q4 q5)), .second, .val (.ref b7), .val (.int (0 : Int32)), .unset] [])) _
    refine XS.iload X8.here hx rfl (hb hby at_141) rfl ?_
    show Steps p.tables e below (T8.setTop (mkF m 143 #[.val (.long q1), .second, .val (.long q2), .second, .val (.long q3), .second, .val (.long q4), .second, .val (.long q5), .second, .val (.int p6), .val (.ref b1), .val (.int (p6 &&& (15 : Int32))), .val (.long (own_b p6 (1 : Int32) q1 q5)), .second, .val (.long (own_b p6 (2 : Int32) q2 q5)), .second, .val (.long (own_b p6 (4 : Int32) q3 q5)), .second, .val (.long (own_b p6 (8 : Int32) q4 q5)), .second, .val (.ref b7), .val (.int (0 : Int32)), .unset] [(.int (0 : Int32))])) _
    refine XS.iconst X8.here hx rfl (hb hby at_143) ?_
    show Steps p.tables e below (T8.setTop (mkF m 144 #[.val (.long q1), .second, .val (.long q2), .second, .val (.long q3), .second, .val (.long q4), .second, .val (.long q5), .second, .val (.int p6), .val (.ref b1), .val (.int (p6 &&& (15 : Int32))), .val (.long (own_b p6 (1 : Int32) q1 q5)), .second, .val (.long (own_b p6 (2 : Int32) q2 q5)), .second, .val (.long (own_b p6 (4 : Int32) q3 q5)), .second, .val (.long (own_b p6 (8 : Int32) q4 q5)), .second, .val (.ref b7), .val (.int (0 : Int32)), .unset] [(.int (2 : Int32)), (.int (0 : Int32))])) _
    refine XS.icmpYes X8.here hx rfl (pc0 := 144) (pc' := 165) rfl (hb hby at_144) rfl (by decide) (by decide) (by decide) ?_
    show Steps p.tables e below (T8.setTop (mkF m 165 #[.val (.long q1), .second, .val (.long q2), .second, .val (.long q3), .second, .val (.long q4), .second, .val (.long q5), .second, .val (.int p6), .val (.ref b1), .val (.int (p6 &&& (15 : Int32))), .val (.long (own_b p6 (1 : Int32) q1 q5)), .second, .val (.long (own_b p6 (2 : Int32) q2 q5)), .second, .val (.long (own_b p6 (4 : Int32) q3 q5)), .second, .val (.long (own_b p6 (8 : Int32) q4 q5)), .second, .val (.ref b7), .val (.int (0 : Int32)), .unset] [])) _
    refine XS.iload X8.here hx rfl (hb hby at_165) rfl ?_
    show Steps p.tables e below (T8.setTop (mkF m 167 #[.val (.long q1), .second, .val (.long q2), .second, .val (.long q3), .second, .val (.long q4), .second, .val (.long q5), .second, .val (.int p6), .val (.ref b1), .val (.int (p6 &&& (15 : Int32))), .val (.long (own_b p6 (1 : Int32) q1 q5)), .second, .val (.long (own_b p6 (2 : Int32) q2 q5)), .second, .val (.long (own_b p6 (4 : Int32) q3 q5)), .second, .val (.long (own_b p6 (8 : Int32) q4 q5)), .second, .val (.ref b7), .val (.int (0 : Int32)), .unset] [(.int (0 : Int32))])) _
    refine XS.iconst X8.here hx rfl (hb hby at_167) ?_
    show Steps p.tables e below (T8.setTop (mkF m 168 #[.val (.long q1), .second, .val (.long q2), .second, .val (.long q3), .second, .val (.long q4), .second, .val (.long q5), .second, .val (.int p6), .val (.ref b1), .val (.int (p6 &&& (15 : Int32))), .val (.long (own_b p6 (1 : Int32) q1 q5)), .second, .val (.long (own_b p6 (2 : Int32) q2 q5)), .second, .val (.long (own_b p6 (4 : Int32) q3 q5)), .second, .val (.long (own_b p6 (8 : Int32) q4 q5)), .second, .val (.ref b7), .val (.int (0 : Int32)), .unset] [(.int (3 : Int32)), (.int (0 : Int32))])) _
    refine XS.icmpYes X8.here hx rfl (pc0 := 168) (pc' := 179) rfl (hb hby at_168) rfl (by decide) (by decide) (by decide) ?_
    show Steps p.tables e below (T8.setTop (mkF m 179 #[.val (.long q1), .second, .val (.long q2), .second, .val (.long q3), .second, .val (.long q4), .second, .val (.long q5), .second, .val (.int p6), .val (.ref b1), .val (.int (p6 &&& (15 : Int32))), .val (.long (own_b p6 (1 : Int32) q1 q5)), .second, .val (.long (own_b p6 (2 : Int32) q2 q5)), .second, .val (.long (own_b p6 (4 : Int32) q3 q5)), .second, .val (.long (own_b p6 (8 : Int32) q4 q5)), .second, .val (.ref b7), .val (.int (0 : Int32)), .unset] [])) _
    refine XS.iload X8.here hx rfl (hb hby at_179) rfl ?_
    show Steps p.tables e below (T8.setTop (mkF m 181 #[.val (.long q1), .second, .val (.long q2), .second, .val (.long q3), .second, .val (.long q4), .second, .val (.long q5), .second, .val (.int p6), .val (.ref b1), .val (.int (p6 &&& (15 : Int32))), .val (.long (own_b p6 (1 : Int32) q1 q5)), .second, .val (.long (own_b p6 (2 : Int32) q2 q5)), .second, .val (.long (own_b p6 (4 : Int32) q3 q5)), .second, .val (.long (own_b p6 (8 : Int32) q4 q5)), .second, .val (.ref b7), .val (.int (0 : Int32)), .unset] [(.int (p6 &&& (15 : Int32)))])) _
    refine XS.ifNo X8.here hx rfl (hb hby at_181) rfl ((if0 _ _).trans (feq P2).1) ?_
    show Steps p.tables e below (T8.setTop (mkF m 184 #[.val (.long q1), .second, .val (.long q2), .second, .val (.long q3), .second, .val (.long q4), .second, .val (.long q5), .second, .val (.int p6), .val (.ref b1), .val (.int (p6 &&& (15 : Int32))), .val (.long (own_b p6 (1 : Int32) q1 q5)), .second, .val (.long (own_b p6 (2 : Int32) q2 q5)), .second, .val (.long (own_b p6 (4 : Int32) q3 q5)), .second, .val (.long (own_b p6 (8 : Int32) q4 q5)), .second, .val (.ref b7), .val (.int (0 : Int32)), .unset] [])) _
    refine XS.lload X8.here hx rfl (hb hby at_184) rfl ?_
    show Steps p.tables e below (T8.setTop (mkF m 186 #[.val (.long q1), .second, .val (.long q2), .second, .val (.long q3), .second, .val (.long q4), .second, .val (.long q5), .second, .val (.int p6), .val (.ref b1), .val (.int (p6 &&& (15 : Int32))), .val (.long (own_b p6 (1 : Int32) q1 q5)), .second, .val (.long (own_b p6 (2 : Int32) q2 q5)), .second, .val (.long (own_b p6 (4 : Int32) q3 q5)), .second, .val (.long (own_b p6 (8 : Int32) q4 q5)), .second, .val (.ref b7), .val (.int (0 : Int32)), .unset] [(.long q5)])) _
    refine XS.lconst X8.here hx rfl (hb hby at_186) ?_
    show Steps p.tables e below (T8.setTop (mkF m 187 #[.val (.long q1), .second, .val (.long q2), .second, .val (.long q3), .second, .val (.long q4), .second, .val (.long q5), .second, .val (.int p6), .val (.ref b1), .val (.int (p6 &&& (15 : Int32))), .val (.long (own_b p6 (1 : Int32) q1 q5)), .second, .val (.long (own_b p6 (2 : Int32) q2 q5)), .second, .val (.long (own_b p6 (4 : Int32) q3 q5)), .second, .val (.long (own_b p6 (8 : Int32) q4 q5)), .second, .val (.ref b7), .val (.int (0 : Int32)), .unset] [(.long (0 : Int64)), (.long q5)])) _
    refine XS.lcmp X8.here hx rfl (hb hby at_187) rfl ?_
    show Steps p.tables e below (T8.setTop (mkF m 188 #[.val (.long q1), .second, .val (.long q2), .second, .val (.long q3), .second, .val (.long q4), .second, .val (.long q5), .second, .val (.int p6), .val (.ref b1), .val (.int (p6 &&& (15 : Int32))), .val (.long (own_b p6 (1 : Int32) q1 q5)), .second, .val (.long (own_b p6 (2 : Int32) q2 q5)), .second, .val (.long (own_b p6 (4 : Int32) q3 q5)), .second, .val (.long (own_b p6 (8 : Int32) q4 q5)), .second, .val (.ref b7), .val (.int (0 : Int32)), .unset] [(.int (lcmpW q5 (0 : Int64)))])) _
    refine XS.ifNo X8.here hx rfl (hb hby at_188) rfl ((if0 _ _).trans (teq P3).2) ?_
    show Steps p.tables e below (T8.setTop (mkF m 191 #[.val (.long q1), .second, .val (.long q2), .second, .val (.long q3), .second, .val (.long q4), .second, .val (.long q5), .second, .val (.int p6), .val (.ref b1), .val (.int (p6 &&& (15 : Int32))), .val (.long (own_b p6 (1 : Int32) q1 q5)), .second, .val (.long (own_b p6 (2 : Int32) q2 q5)), .second, .val (.long (own_b p6 (4 : Int32) q3 q5)), .second, .val (.long (own_b p6 (8 : Int32) q4 q5)), .second, .val (.ref b7), .val (.int (0 : Int32)), .unset] [])) _
    refine XS.iconst X8.here hx rfl (hb hby at_191) ?_
    show Steps p.tables e below (T8.setTop (mkF m 192 #[.val (.long q1), .second, .val (.long q2), .second, .val (.long q3), .second, .val (.long q4), .second, .val (.long q5), .second, .val (.int p6), .val (.ref b1), .val (.int (p6 &&& (15 : Int32))), .val (.long (own_b p6 (1 : Int32) q1 q5)), .second, .val (.long (own_b p6 (2 : Int32) q2 q5)), .second, .val (.long (own_b p6 (4 : Int32) q3 q5)), .second, .val (.long (own_b p6 (8 : Int32) q4 q5)), .second, .val (.ref b7), .val (.int (0 : Int32)), .unset] [(.int (1 : Int32))])) _
    refine XS.goto X8.here hx rfl (pc0 := 192) (pc' := 196) rfl (hb hby at_192) (by decide) (by decide) ?_
    show Steps p.tables e below (T8.setTop (mkF m 196 #[.val (.long q1), .second, .val (.long q2), .second, .val (.long q3), .second, .val (.long q4), .second, .val (.long q5), .second, .val (.int p6), .val (.ref b1), .val (.int (p6 &&& (15 : Int32))), .val (.long (own_b p6 (1 : Int32) q1 q5)), .second, .val (.long (own_b p6 (2 : Int32) q2 q5)), .second, .val (.long (own_b p6 (4 : Int32) q3 q5)), .second, .val (.long (own_b p6 (8 : Int32) q4 q5)), .second, .val (.ref b7), .val (.int (0 : Int32)), .unset] [(.int (1 : Int32))])) _
    refine XS.istore X8.here hx rfl (hb hby at_196) rfl (l' := #[.val (.long q1), .second, .val (.long q2), .second, .val (.long q3), .second, .val (.long q4), .second, .val (.long q5), .second, .val (.int p6), .val (.ref b1), .val (.int (p6 &&& (15 : Int32))), .val (.long (own_b p6 (1 : Int32) q1 q5)), .second, .val (.long (own_b p6 (2 : Int32) q2 q5)), .second, .val (.long (own_b p6 (4 : Int32) q3 q5)), .second, .val (.long (own_b p6 (8 : Int32) q4 q5)), .second, .val (.ref b7), .val (.int (0 : Int32)), .val (.int (1 : Int32))]) rfl ?_
    show Steps p.tables e below (T8.setTop (mkF m 198 #[.val (.long q1), .second, .val (.long q2), .second, .val (.long q3), .second, .val (.long q4), .second, .val (.long q5), .second, .val (.int p6), .val (.ref b1), .val (.int (p6 &&& (15 : Int32))), .val (.long (own_b p6 (1 : Int32) q1 q5)), .second, .val (.long (own_b p6 (2 : Int32) q2 q5)), .second, .val (.long (own_b p6 (4 : Int32) q3 q5)), .second, .val (.long (own_b p6 (8 : Int32) q4 q5)), .second, .val (.ref b7), .val (.int (0 : Int32)), .val (.int (1 : Int32))] [])) _
    refine XS.aload X8.here hx rfl (hb hby at_198) rfl rfl ?_
    show Steps p.tables e below (T8.setTop (mkF m 200 #[.val (.long q1), .second, .val (.long q2), .second, .val (.long q3), .second, .val (.long q4), .second, .val (.long q5), .second, .val (.int p6), .val (.ref b1), .val (.int (p6 &&& (15 : Int32))), .val (.long (own_b p6 (1 : Int32) q1 q5)), .second, .val (.long (own_b p6 (2 : Int32) q2 q5)), .second, .val (.long (own_b p6 (4 : Int32) q3 q5)), .second, .val (.long (own_b p6 (8 : Int32) q4 q5)), .second, .val (.ref b7), .val (.int (0 : Int32)), .val (.int (1 : Int32))] [(.ref b1)])) _
    refine XS.aload X8.here hx rfl (hb hby at_200) rfl rfl ?_
    show Steps p.tables e below (T8.setTop (mkF m 202 #[.val (.long q1), .second, .val (.long q2), .second, .val (.long q3), .second, .val (.long q4), .second, .val (.long q5), .second, .val (.int p6), .val (.ref b1), .val (.int (p6 &&& (15 : Int32))), .val (.long (own_b p6 (1 : Int32) q1 q5)), .second, .val (.long (own_b p6 (2 : Int32) q2 q5)), .second, .val (.long (own_b p6 (4 : Int32) q3 q5)), .second, .val (.long (own_b p6 (8 : Int32) q4 q5)), .second, .val (.ref b7), .val (.int (0 : Int32)), .val (.int (1 : Int32))] [(.ref b7), (.ref b1)])) _
    refine st10.trans ?_
    show Steps p.tables e below (T10.setTop (mkF m 205 #[.val (.long q1), .second, .val (.long q2), .second, .val (.long q3), .second, .val (.long q4), .second, .val (.long q5), .second, .val (.int p6), .val (.ref b1), .val (.int (p6 &&& (15 : Int32))), .val (.long (own_b p6 (1 : Int32) q1 q5)), .second, .val (.long (own_b p6 (2 : Int32) q2 q5)), .second, .val (.long (own_b p6 (4 : Int32) q3 q5)), .second, .val (.long (own_b p6 (8 : Int32) q4 q5)), .second, .val (.ref b7), .val (.int (0 : Int32)), .val (.int (1 : Int32))] [(.int (1 : Int32))])) _
    refine XS.iload X10.here hx rfl (hb hby at_205) rfl ?_
    show Steps p.tables e below (T10.setTop (mkF m 207 #[.val (.long q1), .second, .val (.long q2), .second, .val (.long q3), .second, .val (.long q4), .second, .val (.long q5), .second, .val (.int p6), .val (.ref b1), .val (.int (p6 &&& (15 : Int32))), .val (.long (own_b p6 (1 : Int32) q1 q5)), .second, .val (.long (own_b p6 (2 : Int32) q2 q5)), .second, .val (.long (own_b p6 (4 : Int32) q3 q5)), .second, .val (.long (own_b p6 (8 : Int32) q4 q5)), .second, .val (.ref b7), .val (.int (0 : Int32)), .val (.int (1 : Int32))] [(.int (1 : Int32)), (.int (1 : Int32))])) _
    refine XS.icmpNo X10.here hx rfl (hb hby at_207) rfl (by decide) ?_
    show Steps p.tables e below (T10.setTop (mkF m 210 #[.val (.long q1), .second, .val (.long q2), .second, .val (.long q3), .second, .val (.long q4), .second, .val (.long q5), .second, .val (.int p6), .val (.ref b1), .val (.int (p6 &&& (15 : Int32))), .val (.long (own_b p6 (1 : Int32) q1 q5)), .second, .val (.long (own_b p6 (2 : Int32) q2 q5)), .second, .val (.long (own_b p6 (4 : Int32) q3 q5)), .second, .val (.long (own_b p6 (8 : Int32) q4 q5)), .second, .val (.ref b7), .val (.int (0 : Int32)), .val (.int (1 : Int32))] [])) _
    refine XS.aload X10.here hx rfl (hb hby at_210) rfl rfl ?_
    show Steps p.tables e below (T10.setTop (mkF m 212 #[.val (.long q1), .second, .val (.long q2), .second, .val (.long q3), .second, .val (.long q4), .second, .val (.long q5), .second, .val (.int p6), .val (.ref b1), .val (.int (p6 &&& (15 : Int32))), .val (.long (own_b p6 (1 : Int32) q1 q5)), .second, .val (.long (own_b p6 (2 : Int32) q2 q5)), .second, .val (.long (own_b p6 (4 : Int32) q3 q5)), .second, .val (.long (own_b p6 (8 : Int32) q4 q5)), .second, .val (.ref b7), .val (.int (0 : Int32)), .val (.int (1 : Int32))] [(.ref b7)])) _
    refine XS.aload X10.here hx rfl (hb hby at_212) rfl rfl ?_
    show Steps p.tables e below (T10.setTop (mkF m 214 #[.val (.long q1), .second, .val (.long q2), .second, .val (.long q3), .second, .val (.long q4), .second, .val (.long q5), .second, .val (.int p6), .val (.ref b1), .val (.int (p6 &&& (15 : Int32))), .val (.long (own_b p6 (1 : Int32) q1 q5)), .second, .val (.long (own_b p6 (2 : Int32) q2 q5)), .second, .val (.long (own_b p6 (4 : Int32) q3 q5)), .second, .val (.long (own_b p6 (8 : Int32) q4 q5)), .second, .val (.ref b7), .val (.int (0 : Int32)), .val (.int (1 : Int32))] [(.ref b1), (.ref b7)])) _
    refine st11.trans ?_
    show Steps p.tables e below (T11.setTop (mkF m 217 #[.val (.long q1), .second, .val (.long q2), .second, .val (.long q3), .second, .val (.long q4), .second, .val (.long q5), .second, .val (.int p6), .val (.ref b1), .val (.int (p6 &&& (15 : Int32))), .val (.long (own_b p6 (1 : Int32) q1 q5)), .second, .val (.long (own_b p6 (2 : Int32) q2 q5)), .second, .val (.long (own_b p6 (4 : Int32) q3 q5)), .second, .val (.long (own_b p6 (8 : Int32) q4 q5)), .second, .val (.ref b7), .val (.int (0 : Int32)), .val (.int (1 : Int32))] [(.int (1 : Int32))])) _
    refine XS.iload X11.here hx rfl (hb hby at_217) rfl ?_
    show Steps p.tables e below (T11.setTop (mkF m 219 #[.val (.long q1), .second, .val (.long q2), .second, .val (.long q3), .second, .val (.long q4), .second, .val (.long q5), .second, .val (.int p6), .val (.ref b1), .val (.int (p6 &&& (15 : Int32))), .val (.long (own_b p6 (1 : Int32) q1 q5)), .second, .val (.long (own_b p6 (2 : Int32) q2 q5)), .second, .val (.long (own_b p6 (4 : Int32) q3 q5)), .second, .val (.long (own_b p6 (8 : Int32) q4 q5)), .second, .val (.ref b7), .val (.int (0 : Int32)), .val (.int (1 : Int32))] [(.int (1 : Int32)), (.int (1 : Int32))])) _
    refine XS.icmpNo X11.here hx rfl (hb hby at_219) rfl (by decide) ?_
    show Steps p.tables e below (T11.setTop (mkF m 222 #[.val (.long q1), .second, .val (.long q2), .second, .val (.long q3), .second, .val (.long q4), .second, .val (.long q5), .second, .val (.int p6), .val (.ref b1), .val (.int (p6 &&& (15 : Int32))), .val (.long (own_b p6 (1 : Int32) q1 q5)), .second, .val (.long (own_b p6 (2 : Int32) q2 q5)), .second, .val (.long (own_b p6 (4 : Int32) q3 q5)), .second, .val (.long (own_b p6 (8 : Int32) q4 q5)), .second, .val (.ref b7), .val (.int (0 : Int32)), .val (.int (1 : Int32))] [])) _
    refine XS.iconst X11.here hx rfl (hb hby at_222) ?_
    show Steps p.tables e below (T11.setTop (mkF m 223 #[.val (.long q1), .second, .val (.long q2), .second, .val (.long q3), .second, .val (.long q4), .second, .val (.long q5), .second, .val (.int p6), .val (.ref b1), .val (.int (p6 &&& (15 : Int32))), .val (.long (own_b p6 (1 : Int32) q1 q5)), .second, .val (.long (own_b p6 (2 : Int32) q2 q5)), .second, .val (.long (own_b p6 (4 : Int32) q3 q5)), .second, .val (.long (own_b p6 (8 : Int32) q4 q5)), .second, .val (.ref b7), .val (.int (0 : Int32)), .val (.int (1 : Int32))] [(.int (1 : Int32))])) _
    refine XS.goto X11.here hx rfl (pc0 := 223) (pc' := 227) rfl (hb hby at_223) (by decide) (by decide) ?_
    show Steps p.tables e below (T11.setTop (mkF m 227 #[.val (.long q1), .second, .val (.long q2), .second, .val (.long q3), .second, .val (.long q4), .second, .val (.long q5), .second, .val (.int p6), .val (.ref b1), .val (.int (p6 &&& (15 : Int32))), .val (.long (own_b p6 (1 : Int32) q1 q5)), .second, .val (.long (own_b p6 (2 : Int32) q2 q5)), .second, .val (.long (own_b p6 (4 : Int32) q3 q5)), .second, .val (.long (own_b p6 (8 : Int32) q4 q5)), .second, .val (.ref b7), .val (.int (0 : Int32)), .val (.int (1 : Int32))] [(.int (1 : Int32))])) _
    exact retN X11 hx (t := .boolean) Bd.returns (by simp) (hb hby at_227) hr
  · show own_Q1 n0 _ T11.heap _
    rw [e11]
    exact ⟨rfl, N11⟩
set_option maxRecDepth 65536 in
set_option maxHeartbeats 40000000 in
theorem rm3_1 (l : Launch) (Z : State) (a0 : Array Value) (hw : ∀ d ∈ tables_1, d.before a0 Z = true) (r1 : Addr) (r2 : Addr) (q3 : Int64) (q4 : Int64) (h0 : Heap) (n0 : Nat) (O0 : Old Z n0 h0) (P1 : Exa Z h0 r2 "com/example/bide/bide/QueueCounts") (P2 : Fld Z h0 r1 "com/example/bide/bide/QueueCounts" "pending" "J" (.long q3)) (P3 : Fld Z h0 r2 "com/example/bide/bide/QueueCounts" "pending" "J" (.long q4)) (P4 : ¬ ((lcmpW q3 q4) = (0 : Int32))) :
    MetFree l (⟨"com/example/bide/bide/QueueCounts", "equals", "(Ljava/lang/Object;)Z"⟩ : MethodName) (head1 [Jvm.Cond.code (⟨"com/example/bide/bide/QueueCounts", "equals", "(Ljava/lang/Object;)Z"⟩ : MethodName) prog_3_method_6_code 3 (some .boolean)] ({ frames := 0, cells := 0, slots := 0, locals := 0 } : Room)) (fun a U => a = #[(.ref r1), (.ref r2)] ∧ Z.Warmed39 U.vm ∧ U.heap = h0) (fun _ _ _ _ _ => True) (fun _ U o U' => ∃ v L, o = .returned v ∧ own_QP (some (.int (0 : Int32))) n0 h0 v U'.heap L ∧ FrameEnd U o U' L ({ frames := 0, cells := 0, slots := 0, locals := 0 } : Room).cells ({ frames := 0, cells := 0, slots := 0, locals := 0 } : Room).slots) := by
  refine MetFree.of_bodySF (plainFor_of_name pn_0) hisR ?_
  intro p e s m args below meth c s₁ Bd hml0 hP hK
  obtain ⟨rfl, hZ, hh⟩ := hP
  have hx := Bd.exec
  have hby := Bd.bytes
  have hml : c.maxLocals = 3 := hml0
  have hown : s.vm.findClass "com/example/bide/bide/QueueCounts" = some m.cls := findClass_of_methodNamed Bd.named
  have hnm := (name_of_methodNamed Bd.named Bd.method).1
  have X0 : Stand p l e ({ frames := 0, cells := 0, slots := 0, locals := 0 } : Room) s m #[(.ref r1), (.ref r2)] below meth c s₁ [] 0 0 := Stand.of_body Bd
  have e0 : s₁.heap = h0 := by rw [← hh, Bd.state]; rfl
  have N0 := Fr.nil n0
  have pre0 : ∀ t, Steps p.tables e below (s₁.setTop (mkF m 0 #[.val (.ref r1), .val (.ref r2), .unset] [])) t → Steps p.tables e below (s₁.setTop (entryFrame m #[(.ref r1), (.ref r2)] 3)) t := fun t k => castTop (ef_3_RR m r1 r2) k
  obtain ⟨T1, X1, e1, st1⟩ := instY X0 hx hZ hown (hw _ (List.mem_of_getElem? (i := 22) rfl)) e0 (Ins.self P1) (g := (mkF m 1 #[.val (.ref r1), .val (.ref r2), .unset] [(.ref r2)])) rfl rfl (hb hby d3_1)
  obtain ⟨T2, X2, e2, st2⟩ := castY X1 hx hZ hown (hw _ (List.mem_of_getElem? (i := 22) rfl)) e1 (Ins.self P1) (g := (mkF m 10 #[.val (.ref r1), .val (.ref r2), .unset] [(.ref r2)])) rfl rfl (hb hby d3_10)
  obtain ⟨T3, X3, e3, st3⟩ := getF X2 hx hZ hown (host := "") (Or.inl (hw _ (List.mem_of_getElem? (i := 9) rfl))) Via.refl e2 P2 (g := (mkF m 15 #[.val (.ref r1), .val (.ref r2), .val (.ref r2)] [(.ref r1)])) rfl rfl (hb hby d3_15)
  obtain ⟨T4, X4, e4, st4⟩ := getF X3 hx hZ hown (host := "") (Or.inl (hw _ (List.mem_of_getElem? (i := 9) rfl))) Via.refl e3 P3 (g := (mkF m 19 #[.val (.ref r1), .val (.ref r2), .val (.ref r2)] [(.ref r2), (.long q3)])) rfl rfl (hb hby d3_19)
  obtain ⟨fs, hr, hrun, hended, hW, hsame⟩ := X4.leave (v := (some (.int (0 : Int32)))) (fun h => by rw [Bd.returns] at h; cases h)
  refine ⟨_, _, pre0 _ ?_, hrun, hended, _, _, rfl, ?_, ⟨_, rfl⟩, hW, hsame.mono (by decide) (by decide)⟩
  · show Steps p.tables e below (s₁.setTop (mkF m 0 #[.val (.ref r1), .val (.ref r2), .unset] [])) _
    refine XS.aloadN X0.here hx rfl (hb hby d3_0) rfl rfl ?_
    show Steps p.tables e below (s₁.setTop (mkF m 1 #[.val (.ref r1), .val (.ref r2), .unset] [(.ref r2)])) _
    refine st1 _ ?_
    show Steps p.tables e below (T1.setTop (mkF m 4 #[.val (.ref r1), .val (.ref r2), .unset] [(.int (1 : Int32))])) _
    refine XS.ifYes X1.here hx rfl (pc0 := 4) (pc' := 9) rfl (hb hby d3_4) rfl (by decide) (by decide) (by decide) ?_
    show Steps p.tables e below (T1.setTop (mkF m 9 #[.val (.ref r1), .val (.ref r2), .unset] [])) _
    refine XS.aloadN X1.here hx rfl (hb hby d3_9) rfl rfl ?_
    show Steps p.tables e below (T1.setTop (mkF m 10 #[.val (.ref r1), .val (.ref r2), .unset] [(.ref r2)])) _
    refine st2 _ ?_
    show Steps p.tables e below (T2.setTop (mkF m 13 #[.val (.ref r1), .val (.ref r2), .unset] [(.ref r2)])) _
    refine XS.astoreN X2.here hx rfl (hb hby d3_13) rfl rfl (l' := #[.val (.ref r1), .val (.ref r2), .val (.ref r2)]) rfl ?_
    show Steps p.tables e below (T2.setTop (mkF m 14 #[.val (.ref r1), .val (.ref r2), .val (.ref r2)] [])) _
    refine XS.aloadN X2.here hx rfl (hb hby d3_14) rfl rfl ?_
    show Steps p.tables e below (T2.setTop (mkF m 15 #[.val (.ref r1), .val (.ref r2), .val (.ref r2)] [(.ref r1)])) _
    refine st3 _ ?_
    show Steps p.tables e below (T3.setTop (mkF m 18 #[.val (.ref r1), .val (.ref r2), .val (.ref r2)] [(.long q3)])) _
    refine XS.aloadN X3.here hx rfl (hb hby d3_18) rfl rfl ?_
    show Steps p.tables e below (T3.setTop (mkF m 19 #[.val (.ref r1), .val (.ref r2), .val (.ref r2)] [(.ref r2), (.long q3)])) _
    refine st4 _ ?_
    show Steps p.tables e below (T4.setTop (mkF m 22 #[.val (.ref r1), .val (.ref r2), .val (.ref r2)] [(.long q4), (.long q3)])) _
    refine XS.lcmp X4.here hx rfl (hb hby d3_22) rfl ?_
    show Steps p.tables e below (T4.setTop (mkF m 23 #[.val (.ref r1), .val (.ref r2), .val (.ref r2)] [(.int (lcmpW q3 q4))])) _
    refine XS.ifYes X4.here hx rfl (pc0 := 23) (pc' := 66) rfl (hb hby d3_23) rfl ((if0 _ _).trans (feq P4).2) (by decide) (by decide) ?_
    show Steps p.tables e below (T4.setTop (mkF m 66 #[.val (.ref r1), .val (.ref r2), .val (.ref r2)] [])) _
    refine XS.iconst X4.here hx rfl (hb hby d3_66) ?_
    show Steps p.tables e below (T4.setTop (mkF m 67 #[.val (.ref r1), .val (.ref r2), .val (.ref r2)] [(.int (0 : Int32))])) _
    exact retN X4 hx (t := .boolean) Bd.returns (by simp) (hb hby d3_67) hr
  · show own_QP (some (.int (0 : Int32))) n0 h0 _ T4.heap _
    rw [e4]
    exact ⟨rfl, N0, rfl⟩
set_option maxRecDepth 65536 in
set_option maxHeartbeats 40000000 in
theorem law_2 (l : Launch) (Z : State) (a0 : Array Value) (hw : ∀ d ∈ tables_1, d.before a0 Z = true) (ws : List Jvm.Cond) (q1 : Int64) (q2 : Int64) (q3 : Int64) (q4 : Int64) (q5 : Int64) (p6 : Int32) (h0 : Heap) (n0 : Nat) (O0 : Old Z n0 h0) (P1 : (((p6.toUInt32 >>> ((4 : Int32) &&& 31).toUInt32).toInt32) &&& (3 : Int32)) = (0 : Int32)) (P2 : ¬ ((p6 &&& (15 : Int32)) = (0 : Int32))) (P3 : ¬ ((lcmpW q5 (0 : Int64)) = (0 : Int32))) (P4 : ¬ ((lcmpW q1 (own_b p6 (1 : Int32) q1 q5)) = (0 : Int32))) (P5 : ¬ ((lcmpW (own_b p6 (1 : Int32) q1 q5) q1) = (0 : Int32))) :
    MetFree l x (head1 (Jvm.Cond.code x code maxLocals ret :: ws) room_1) (fun a U => a = #[(.long q1), (.long q2), (.long q3), (.long q4), (.long q5), (.int p6)] ∧ Z.Warmed39 U.vm ∧ U.heap = h0) (fun _ _ _ _ _ => True) (fun _ U o U' => ∃ v L, o = .returned v ∧ own_Q1 n0 v U'.heap L ∧ FrameEnd U o U' L room_1.cells room_1.slots) := by
  refine MetFree.of_bodySF (plainFor_of_name pn_5) hisR ?_
  intro p e s m args below meth c s₁ Bd hml0 hP hK
  obtain ⟨rfl, hZ, hh⟩ := hP
  have hx := Bd.exec
  have hby := Bd.bytes
  have hml : c.maxLocals = 24 := hml0
  have hown : s.vm.findClass "com/example/bide/bide/QueueCountsEqualsPinLaw" = some m.cls := findClass_of_methodNamed Bd.named
  have hnm := (name_of_methodNamed Bd.named Bd.method).1
  have X0 : Stand p l e room_1 s m #[(.long q1), (.long q2), (.long q3), (.long q4), (.long q5), (.int p6)] below meth c s₁ [] 0 0 := Stand.of_body Bd
  have e0 : s₁.heap = h0 := by rw [← hh, Bd.state]; rfl
  have N0 := Fr.nil n0
  have pre0 : ∀ t, Steps p.tables e below (s₁.setTop (mkF m 0 #[.val (.long q1), .second, .val (.long q2), .second, .val (.long q3), .second, .val (.long q4), .second, .val (.long q5), .second, .val (.int p6), .unset, .unset, .unset, .unset, .unset, .unset, .unset, .unset, .unset, .unset, .unset, .unset, .unset] [])) t → Steps p.tables e below (s₁.setTop (entryFrame m #[(.long q1), (.long q2), (.long q3), (.long q4), (.long q5), (.int p6)] maxLocals)) t := fun t k => castTop (ef_0_JJJJJI m q1 q2 q3 q4 q5 p6) k
  obtain ⟨T1, h1, X1, e1, E1, A1, D1, -, st1⟩ := newO X0 hx hZ hown (hw _ (List.mem_of_getElem? (i := 0) rfl)) (hw _ (List.mem_of_getElem? (i := 1) rfl)) (hw _ (List.mem_of_getElem? (i := 2) rfl)) e0 (g := (mkF m 0 #[.val (.long q1), .second, .val (.long q2), .second, .val (.long q3), .second, .val (.long q4), .second, .val (.long q5), .second, .val (.int p6), .unset, .unset, .unset, .unset, .unset, .unset, .unset, .unset, .unset, .unset, .unset, .unset, .unset] [])) rfl (hb hby at_0) (by decide) (by decide)
  obtain ⟨b1, gq1⟩ : ∃ z, z = h0.size := ⟨_, rfl⟩
  rw [← gq1] at A1 D1 st1
  have g_b1 : n0 ≤ b1 := Nat.le_trans ((O0.1 ▸ O0.2.1) : n0 ≤ h0.size) (Nat.le_of_eq gq1.symm)
  have sz_b1 : h0.size ≤ b1 := Nat.le_trans (Keep.refl h0 []).1 (Nat.le_of_eq gq1.symm)
  have KK1 : Keep h0 h1 [] := (Keep.refl h0 []).ext E1
  have O1 := O0.ext E1
  have F_pending_b1 : Fld Z h1 b1 "com/example/bide/bide/QueueCounts" "pending" "J" (.long (0 : Int64)) := D1 (Or.inr (hw _ (List.mem_of_getElem? (i := 10) rfl))) (ty := .long) (by decide)
  have F_due_b1 : Fld Z h1 b1 "com/example/bide/bide/QueueCounts" "due" "J" (.long (0 : Int64)) := D1 (Or.inr (hw _ (List.mem_of_getElem? (i := 12) rfl))) (ty := .long) (by decide)
  have F_leased_b1 : Fld Z h1 b1 "com/example/bide/bide/QueueCounts" "leased" "J" (.long (0 : Int64)) := D1 (Or.inr (hw _ (List.mem_of_getElem? (i := 14) rfl))) (ty := .long) (by decide)
  have F_dead_b1 : Fld Z h1 b1 "com/example/bide/bide/QueueCounts" "dead" "J" (.long (0 : Int64)) := D1 (Or.inr (hw _ (List.mem_of_getElem? (i := 16) rfl))) (ty := .long) (by decide)
  obtain ⟨_, _, ⟨T2, L2, k2, n2⟩, -, X2, ⟨Lc2, hQ2, l2, y2, z2⟩, st2⟩ := X1.specialBack hx (y := (⟨"com/example/bide/bide/QueueCounts", "<init>", "(JJJJ)V"⟩ : MethodName)) rfl hown (mvT hZ (hw _ (List.mem_of_getElem? (i := 3) rfl))) (mvT hZ (hw _ (List.mem_of_getElem? (i := 4) rfl))) (mvT hZ (hw _ (List.mem_of_getElem? (i := 5) rfl))) (by decide) (backOf (W := 1) (rm1_0 l Z a0 hw b1 q1 q2 q3 q4 h1 n0 O1 A1 F_pending_b1 F_due_b1 F_leased_b1 F_dead_b1 g_b1) hZ (hw _ (List.mem_of_getElem? (i := 5) rfl)) (hw _ (List.mem_of_getElem? (i := 2) rfl)) (by decide) (by decide)) (g := (mkF m 10 #[.val (.long q1), .second, .val (.long q2), .second, .val (.long q3), .second, .val (.long q4), .second, .val (.long q5), .second, .val (.int p6), .unset, .unset, .unset, .unset, .unset, .unset, .unset, .unset, .unset, .unset, .unset, .unset, .unset] [(.long q4), (.long q3), (.long q2), (.long q1), (.ref b1), (.ref b1)])) rfl (by rw [hml]; rfl) (Steps.refl _) (a := b1) (argsL := [(.long q1), (.long q2), (.long q3), (.long q4)]) (rest := [(.ref b1)]) (lenOf pd_2 rfl) rfl (by show 2 * 0 + _ ≤ _; exact Nat.le_of_eq rfl) (hb hby at_10) (fun _ _ => ⟨rfl, e1, (by decide : 1 + 0 ≤ _), (by decide : 4 + 0 ≤ _)⟩)
  dsimp only [Pt.U, Pt.locs, Pt.cells, Pt.slots] at X2 l2 y2 z2 st2 hQ2
  subst l2 y2 z2
  obtain ⟨rfl, N2q, K2, f2_0, f2_1, f2_2, f2_3⟩ := hQ2
  have KK2 : Keep h0 T2.heap [] := KK1.trans K2 (allS (Or.inr sz_b1) all0)
  have O2 := O1.keep K2 (allS g_b1 all0)
  have N2 := Fr.app N0 N2q
  have dm3 : ∀ target, Steps p.tables e below (T2.setTop (mkF m 37 #[.val (.long q1), .second, .val (.long q2), .second, .val (.long q3), .second, .val (.long q4), .second, .val (.long q5), .second, .val (.int p6), .val (.ref b1), .val (.int (p6 &&& (15 : Int32))), .unset, .unset, .unset, .unset, .unset, .unset, .unset, .unset, .unset, .unset, .unset] [(.long (own_b p6 (1 : Int32) q1 q5))])) target → Steps p.tables e below (T2.setTop (mkF m 26 #[.val (.long q1), .second, .val (.long q2), .second, .val (.long q3), .second, .val (.long q4), .second, .val (.long q5), .second, .val (.int p6), .val (.ref b1), .val (.int (p6 &&& (15 : Int32))), .unset, .unset, .unset, .unset, .unset, .unset, .unset, .unset, .unset, .unset, .unset] [(.int ((p6 &&& (15 : Int32)) &&& (1 : Int32)))])) target := by
    intro target kt
    by_cases hdb : ((p6 &&& (15 : Int32)) &&& (1 : Int32)) = (0 : Int32)
    · rw [own_b_pos hdb] at kt
      show Steps p.tables e below (T2.setTop (mkF m 26 #[.val (.long q1), .second, .val (.long q2), .second, .val (.long q3), .second, .val (.long q4), .second, .val (.long q5), .second, .val (.int p6), .val (.ref b1), .val (.int (p6 &&& (15 : Int32))), .unset, .unset, .unset, .unset, .unset, .unset, .unset, .unset, .unset, .unset, .unset] [(.int ((p6 &&& (15 : Int32)) &&& (1 : Int32)))])) _
      refine XS.ifYes X2.here hx rfl (pc0 := 26) (pc' := 36) rfl (hb hby at_26) rfl ((if0 _ _).trans (teq hdb).1) (by decide) (by decide) ?_
      show Steps p.tables e below (T2.setTop (mkF m 36 #[.val (.long q1), .second, .val (.long q2), .second, .val (.long q3), .second, .val (.long q4), .second, .val (.long q5), .second, .val (.int p6), .val (.ref b1), .val (.int (p6 &&& (15 : Int32))), .unset, .unset, .unset, .unset, .unset, .unset, .unset, .unset, .unset, .unset, .unset] [])) _
      refine XS.lloadN X2.here hx rfl (hb hby at_36) rfl ?_
      exact kt
    · rw [own_b_neg hdb] at kt
      show Steps p.tables e below (T2.setTop (mkF m 26 #[.val (.long q1), .second, .val (.long q2), .second, .val (.long q3), .second, .val (.long q4), .second, .val (.long q5), .second, .val (.int p6), .val (.ref b1), .val (.int (p6 &&& (15 : Int32))), .unset, .unset, .unset, .unset, .unset, .unset, .unset, .unset, .unset, .unset, .unset] [(.int ((p6 &&& (15 : Int32)) &&& (1 : Int32)))])) _
      refine XS.ifNo X2.here hx rfl (hb hby at_26) rfl ((if0 _ _).trans (feq hdb).1) ?_
      show Steps p.tables e below (T2.setTop (mkF m 29 #[.val (.long q1), .second, .val (.long q2), .second, .val (.long q3), .second, .val (.long q4), .second, .val (.long q5), .second, .val (.int p6), .val (.ref b1), .val (.int (p6 &&& (15 : Int32))), .unset, .unset, .unset, .unset, .unset, .unset, .unset, .unset, .unset, .unset, .unset] [])) _
      refine XS.lloadN X2.here hx rfl (hb hby at_29) rfl ?_
      show Steps p.tables e below (T2.setTop (mkF m 30 #[.val (.long q1), .second, .val (.long q2), .second, .val (.long q3), .second, .val (.long q4), .second, .val (.long q5), .second, .val (.int p6), .val (.ref b1), .val (.int (p6 &&& (15 : Int32))), .unset, .unset, .unset, .unset, .unset, .unset, .unset, .unset, .unset, .unset, .unset] [(.long q1)])) _
      refine XS.lload X2.here hx rfl (hb hby at_30) rfl ?_
      show Steps p.tables e below (T2.setTop (mkF m 32 #[.val (.long q1), .second, .val (.long q2), .second, .val (.long q3), .second, .val (.long q4), .second, .val (.long q5), .second, .val (.int p6), .val (.ref b1), .val (.int (p6 &&& (15 : Int32))), .unset, .unset, .unset, .unset, .unset, .unset, .unset, .unset, .unset, .unset, .unset] [(.long q5), (.long q1)])) _
      refine XS.ladd X2.here hx rfl (hb hby at_32) rfl ?_
      show Steps p.tables e below (T2.setTop (mkF m 33 #[.val (.long q1), .second, .val (.long q2), .second, .val (.long q3), .second, .val (.long q4), .second, .val (.long q5), .second, .val (.int p6), .val (.ref b1), .val (.int (p6 &&& (15 : Int32))), .unset, .unset, .unset, .unset, .unset, .unset, .unset, .unset, .unset, .unset, .unset] [(.long (q1 + q5))])) _
      refine XS.goto X2.here hx rfl (pc0 := 33) (pc' := 37) rfl (hb hby at_33) (by decide) (by decide) ?_
      exact kt
  have dm4 : ∀ target, Steps p.tables e below (T2.setTop (mkF m 54 #[.val (.long q1), .second, .val (.long q2), .second, .val (.long q3), .second, .val (.long q4), .second, .val (.long q5), .second, .val (.int p6), .val (.ref b1), .val (.int (p6 &&& (15 : Int32))), .val (.long (own_b p6 (1 : Int32) q1 q5)), .second, .unset, .unset, .unset, .unset, .unset, .unset, .unset, .unset, .unset] [(.long (own_b p6 (2 : Int32) q2 q5))])) target → Steps p.tables e below (T2.setTop (mkF m 43 #[.val (.long q1), .second, .val (.long q2), .second, .val (.long q3), .second, .val (.long q4), .second, .val (.long q5), .second, .val (.int p6), .val (.ref b1), .val (.int (p6 &&& (15 : Int32))), .val (.long (own_b p6 (1 : Int32) q1 q5)), .second, .unset, .unset, .unset, .unset, .unset, .unset, .unset, .unset, .unset] [(.int ((p6 &&& (15 : Int32)) &&& (2 : Int32)))])) target := by
    intro target kt
    by_cases hdb : ((p6 &&& (15 : Int32)) &&& (2 : Int32)) = (0 : Int32)
    · rw [own_b_pos hdb] at kt
      show Steps p.tables e below (T2.setTop (mkF m 43 #[.val (.long q1), .second, .val (.long q2), .second, .val (.long q3), .second, .val (.long q4), .second, .val (.long q5), .second, .val (.int p6), .val (.ref b1), .val (.int (p6 &&& (15 : Int32))), .val (.long (own_b p6 (1 : Int32) q1 q5)), .second, .unset, .unset, .unset, .unset, .unset, .unset, .unset, .unset, .unset] [(.int ((p6 &&& (15 : Int32)) &&& (2 : Int32)))])) _
      refine XS.ifYes X2.here hx rfl (pc0 := 43) (pc' := 53) rfl (hb hby at_43) rfl ((if0 _ _).trans (teq hdb).1) (by decide) (by decide) ?_
      show Steps p.tables e below (T2.setTop (mkF m 53 #[.val (.long q1), .second, .val (.long q2), .second, .val (.long q3), .second, .val (.long q4), .second, .val (.long q5), .second, .val (.int p6), .val (.ref b1), .val (.int (p6 &&& (15 : Int32))), .val (.long (own_b p6 (1 : Int32) q1 q5)), .second, .unset, .unset, .unset, .unset, .unset, .unset, .unset, .unset, .unset] [])) _
      refine XS.lloadN X2.here hx rfl (hb hby at_53) rfl ?_
      exact kt
    · rw [own_b_neg hdb] at kt
      show Steps p.tables e below (T2.setTop (mkF m 43 #[.val (.long q1), .second, .val (.long q2), .second, .val (.long q3), .second, .val (.long q4), .second, .val (.long q5), .second, .val (.int p6), .val (.ref b1), .val (.int (p6 &&& (15 : Int32))), .val (.long (own_b p6 (1 : Int32) q1 q5)), .second, .unset, .unset, .unset, .unset, .unset, .unset, .unset, .unset, .unset] [(.int ((p6 &&& (15 : Int32)) &&& (2 : Int32)))])) _
      refine XS.ifNo X2.here hx rfl (hb hby at_43) rfl ((if0 _ _).trans (feq hdb).1) ?_
      show Steps p.tables e below (T2.setTop (mkF m 46 #[.val (.long q1), .second, .val (.long q2), .second, .val (.long q3), .second, .val (.long q4), .second, .val (.long q5), .second, .val (.int p6), .val (.ref b1), .val (.int (p6 &&& (15 : Int32))), .val (.long (own_b p6 (1 : Int32) q1 q5)), .second, .unset, .unset, .unset, .unset, .unset, .unset, .unset, .unset, .unset] [])) _
      refine XS.lloadN X2.here hx rfl (hb hby at_46) rfl ?_
      show Steps p.tables e below (T2.setTop (mkF m 47 #[.val (.long q1), .second, .val (.long q2), .second, .val (.long q3), .second, .val (.long q4), .second, .val (.long q5), .second, .val (.int p6), .val (.ref b1), .val (.int (p6 &&& (15 : Int32))), .val (.long (own_b p6 (1 : Int32) q1 q5)), .second, .unset, .unset, .unset, .unset, .unset, .unset, .unset, .unset, .unset] [(.long q2)])) _
      refine XS.lload X2.here hx rfl (hb hby at_47) rfl ?_
      show Steps p.tables e below (T2.setTop (mkF m 49 #[.val (.long q1), .second, .val (.long q2), .second, .val (.long q3), .second, .val (.long q4), .second, .val (.long q5), .second, .val (.int p6), .val (.ref b1), .val (.int (p6 &&& (15 : Int32))), .val (.long (own_b p6 (1 : Int32) q1 q5)), .second, .unset, .unset, .unset, .unset, .unset, .unset, .unset, .unset, .unset] [(.long q5), (.long q2)])) _
      refine XS.ladd X2.here hx rfl (hb hby at_49) rfl ?_
      show Steps p.tables e below (T2.setTop (mkF m 50 #[.val (.long q1), .second, .val (.long q2), .second, .val (.long q3), .second, .val (.long q4), .second, .val (.long q5), .second, .val (.int p6), .val (.ref b1), .val (.int (p6 &&& (15 : Int32))), .val (.long (own_b p6 (1 : Int32) q1 q5)), .second, .unset, .unset, .unset, .unset, .unset, .unset, .unset, .unset, .unset] [(.long (q2 + q5))])) _
      refine XS.goto X2.here hx rfl (pc0 := 50) (pc' := 54) rfl (hb hby at_50) (by decide) (by decide) ?_
      exact kt
  have dm5 : ∀ target, Steps p.tables e below (T2.setTop (mkF m 73 #[.val (.long q1), .second, .val (.long q2), .second, .val (.long q3), .second, .val (.long q4), .second, .val (.long q5), .second, .val (.int p6), .val (.ref b1), .val (.int (p6 &&& (15 : Int32))), .val (.long (own_b p6 (1 : Int32) q1 q5)), .second, .val (.long (own_b p6 (2 : Int32) q2 q5)), .second, .unset, .unset, .unset, .unset, .unset, .unset, .unset] [(.long (own_b p6 (4 : Int32) q3 q5))])) target → Steps p.tables e below (T2.setTop (mkF m 60 #[.val (.long q1), .second, .val (.long q2), .second, .val (.long q3), .second, .val (.long q4), .second, .val (.long q5), .second, .val (.int p6), .val (.ref b1), .val (.int (p6 &&& (15 : Int32))), .val (.long (own_b p6 (1 : Int32) q1 q5)), .second, .val (.long (own_b p6 (2 : Int32) q2 q5)), .second, .unset, .unset, .unset, .unset, .unset, .unset, .unset] [(.int ((p6 &&& (15 : Int32)) &&& (4 : Int32)))])) target := by
    intro target kt
    by_cases hdb : ((p6 &&& (15 : Int32)) &&& (4 : Int32)) = (0 : Int32)
    · rw [own_b_pos hdb] at kt
      show Steps p.tables e below (T2.setTop (mkF m 60 #[.val (.long q1), .second, .val (.long q2), .second, .val (.long q3), .second, .val (.long q4), .second, .val (.long q5), .second, .val (.int p6), .val (.ref b1), .val (.int (p6 &&& (15 : Int32))), .val (.long (own_b p6 (1 : Int32) q1 q5)), .second, .val (.long (own_b p6 (2 : Int32) q2 q5)), .second, .unset, .unset, .unset, .unset, .unset, .unset, .unset] [(.int ((p6 &&& (15 : Int32)) &&& (4 : Int32)))])) _
      refine XS.ifYes X2.here hx rfl (pc0 := 60) (pc' := 71) rfl (hb hby at_60) rfl ((if0 _ _).trans (teq hdb).1) (by decide) (by decide) ?_
      show Steps p.tables e below (T2.setTop (mkF m 71 #[.val (.long q1), .second, .val (.long q2), .second, .val (.long q3), .second, .val (.long q4), .second, .val (.long q5), .second, .val (.int p6), .val (.ref b1), .val (.int (p6 &&& (15 : Int32))), .val (.long (own_b p6 (1 : Int32) q1 q5)), .second, .val (.long (own_b p6 (2 : Int32) q2 q5)), .second, .unset, .unset, .unset, .unset, .unset, .unset, .unset] [])) _
      refine XS.lload X2.here hx rfl (hb hby at_71) rfl ?_
      exact kt
    · rw [own_b_neg hdb] at kt
      show Steps p.tables e below (T2.setTop (mkF m 60 #[.val (.long q1), .second, .val (.long q2), .second, .val (.long q3), .second, .val (.long q4), .second, .val (.long q5), .second, .val (.int p6), .val (.ref b1), .val (.int (p6 &&& (15 : Int32))), .val (.long (own_b p6 (1 : Int32) q1 q5)), .second, .val (.long (own_b p6 (2 : Int32) q2 q5)), .second, .unset, .unset, .unset, .unset, .unset, .unset, .unset] [(.int ((p6 &&& (15 : Int32)) &&& (4 : Int32)))])) _
      refine XS.ifNo X2.here hx rfl (hb hby at_60) rfl ((if0 _ _).trans (feq hdb).1) ?_
      show Steps p.tables e below (T2.setTop (mkF m 63 #[.val (.long q1), .second, .val (.long q2), .second, .val (.long q3), .second, .val (.long q4), .second, .val (.long q5), .second, .val (.int p6), .val (.ref b1), .val (.int (p6 &&& (15 : Int32))), .val (.long (own_b p6 (1 : Int32) q1 q5)), .second, .val (.long (own_b p6 (2 : Int32) q2 q5)), .second, .unset, .unset, .unset, .unset, .unset, .unset, .unset] [])) _
      refine XS.lload X2.here hx rfl (hb hby at_63) rfl ?_
      show Steps p.tables e below (T2.setTop (mkF m 65 #[.val (.long q1), .second, .val (.long q2), .second, .val (.long q3), .second, .val (.long q4), .second, .val (.long q5), .second, .val (.int p6), .val (.ref b1), .val (.int (p6 &&& (15 : Int32))), .val (.long (own_b p6 (1 : Int32) q1 q5)), .second, .val (.long (own_b p6 (2 : Int32) q2 q5)), .second, .unset, .unset, .unset, .unset, .unset, .unset, .unset] [(.long q3)])) _
      refine XS.lload X2.here hx rfl (hb hby at_65) rfl ?_
      show Steps p.tables e below (T2.setTop (mkF m 67 #[.val (.long q1), .second, .val (.long q2), .second, .val (.long q3), .second, .val (.long q4), .second, .val (.long q5), .second, .val (.int p6), .val (.ref b1), .val (.int (p6 &&& (15 : Int32))), .val (.long (own_b p6 (1 : Int32) q1 q5)), .second, .val (.long (own_b p6 (2 : Int32) q2 q5)), .second, .unset, .unset, .unset, .unset, .unset, .unset, .unset] [(.long q5), (.long q3)])) _
      refine XS.ladd X2.here hx rfl (hb hby at_67) rfl ?_
      show Steps p.tables e below (T2.setTop (mkF m 68 #[.val (.long q1), .second, .val (.long q2), .second, .val (.long q3), .second, .val (.long q4), .second, .val (.long q5), .second, .val (.int p6), .val (.ref b1), .val (.int (p6 &&& (15 : Int32))), .val (.long (own_b p6 (1 : Int32) q1 q5)), .second, .val (.long (own_b p6 (2 : Int32) q2 q5)), .second, .unset, .unset, .unset, .unset, .unset, .unset, .unset] [(.long (q3 + q5))])) _
      refine XS.goto X2.here hx rfl (pc0 := 68) (pc' := 73) rfl (hb hby at_68) (by decide) (by decide) ?_
      exact kt
  have dm6 : ∀ target, Steps p.tables e below (T2.setTop (mkF m 93 #[.val (.long q1), .second, .val (.long q2), .second, .val (.long q3), .second, .val (.long q4), .second, .val (.long q5), .second, .val (.int p6), .val (.ref b1), .val (.int (p6 &&& (15 : Int32))), .val (.long (own_b p6 (1 : Int32) q1 q5)), .second, .val (.long (own_b p6 (2 : Int32) q2 q5)), .second, .val (.long (own_b p6 (4 : Int32) q3 q5)), .second, .unset, .unset, .unset, .unset, .unset] [(.long (own_b p6 (8 : Int32) q4 q5))])) target → Steps p.tables e below (T2.setTop (mkF m 80 #[.val (.long q1), .second, .val (.long q2), .second, .val (.long q3), .second, .val (.long q4), .second, .val (.long q5), .second, .val (.int p6), .val (.ref b1), .val (.int (p6 &&& (15 : Int32))), .val (.long (own_b p6 (1 : Int32) q1 q5)), .second, .val (.long (own_b p6 (2 : Int32) q2 q5)), .second, .val (.long (own_b p6 (4 : Int32) q3 q5)), .second, .unset, .unset, .unset, .unset, .unset] [(.int ((p6 &&& (15 : Int32)) &&& (8 : Int32)))])) target := by
    intro target kt
    by_cases hdb : ((p6 &&& (15 : Int32)) &&& (8 : Int32)) = (0 : Int32)
    · rw [own_b_pos hdb] at kt
      show Steps p.tables e below (T2.setTop (mkF m 80 #[.val (.long q1), .second, .val (.long q2), .second, .val (.long q3), .second, .val (.long q4), .second, .val (.long q5), .second, .val (.int p6), .val (.ref b1), .val (.int (p6 &&& (15 : Int32))), .val (.long (own_b p6 (1 : Int32) q1 q5)), .second, .val (.long (own_b p6 (2 : Int32) q2 q5)), .second, .val (.long (own_b p6 (4 : Int32) q3 q5)), .second, .unset, .unset, .unset, .unset, .unset] [(.int ((p6 &&& (15 : Int32)) &&& (8 : Int32)))])) _
      refine XS.ifYes X2.here hx rfl (pc0 := 80) (pc' := 91) rfl (hb hby at_80) rfl ((if0 _ _).trans (teq hdb).1) (by decide) (by decide) ?_
      show Steps p.tables e below (T2.setTop (mkF m 91 #[.val (.long q1), .second, .val (.long q2), .second, .val (.long q3), .second, .val (.long q4), .second, .val (.long q5), .second, .val (.int p6), .val (.ref b1), .val (.int (p6 &&& (15 : Int32))), .val (.long (own_b p6 (1 : Int32) q1 q5)), .second, .val (.long (own_b p6 (2 : Int32) q2 q5)), .second, .val (.long (own_b p6 (4 : Int32) q3 q5)), .second, .unset, .unset, .unset, .unset, .unset] [])) _
      refine XS.lload X2.here hx rfl (hb hby at_91) rfl ?_
      exact kt
    · rw [own_b_neg hdb] at kt
      show Steps p.tables e below (T2.setTop (mkF m 80 #[.val (.long q1), .second, .val (.long q2), .second, .val (.long q3), .second, .val (.long q4), .second, .val (.long q5), .second, .val (.int p6), .val (.ref b1), .val (.int (p6 &&& (15 : Int32))), .val (.long (own_b p6 (1 : Int32) q1 q5)), .second, .val (.long (own_b p6 (2 : Int32) q2 q5)), .second, .val (.long (own_b p6 (4 : Int32) q3 q5)), .second, .unset, .unset, .unset, .unset, .unset] [(.int ((p6 &&& (15 : Int32)) &&& (8 : Int32)))])) _
      refine XS.ifNo X2.here hx rfl (hb hby at_80) rfl ((if0 _ _).trans (feq hdb).1) ?_
      show Steps p.tables e below (T2.setTop (mkF m 83 #[.val (.long q1), .second, .val (.long q2), .second, .val (.long q3), .second, .val (.long q4), .second, .val (.long q5), .second, .val (.int p6), .val (.ref b1), .val (.int (p6 &&& (15 : Int32))), .val (.long (own_b p6 (1 : Int32) q1 q5)), .second, .val (.long (own_b p6 (2 : Int32) q2 q5)), .second, .val (.long (own_b p6 (4 : Int32) q3 q5)), .second, .unset, .unset, .unset, .unset, .unset] [])) _
      refine XS.lload X2.here hx rfl (hb hby at_83) rfl ?_
      show Steps p.tables e below (T2.setTop (mkF m 85 #[.val (.long q1), .second, .val (.long q2), .second, .val (.long q3), .second, .val (.long q4), .second, .val (.long q5), .second, .val (.int p6), .val (.ref b1), .val (.int (p6 &&& (15 : Int32))), .val (.long (own_b p6 (1 : Int32) q1 q5)), .second, .val (.long (own_b p6 (2 : Int32) q2 q5)), .second, .val (.long (own_b p6 (4 : Int32) q3 q5)), .second, .unset, .unset, .unset, .unset, .unset] [(.long q4)])) _
      refine XS.lload X2.here hx rfl (hb hby at_85) rfl ?_
      show Steps p.tables e below (T2.setTop (mkF m 87 #[.val (.long q1), .second, .val (.long q2), .second, .val (.long q3), .second, .val (.long q4), .second, .val (.long q5), .second, .val (.int p6), .val (.ref b1), .val (.int (p6 &&& (15 : Int32))), .val (.long (own_b p6 (1 : Int32) q1 q5)), .second, .val (.long (own_b p6 (2 : Int32) q2 q5)), .second, .val (.long (own_b p6 (4 : Int32) q3 q5)), .second, .unset, .unset, .unset, .unset, .unset] [(.long q5), (.long q4)])) _
      refine XS.ladd X2.here hx rfl (hb hby at_87) rfl ?_
      show Steps p.tables e below (T2.setTop (mkF m 88 #[.val (.long q1), .second, .val (.long q2), .second, .val (.long q3), .second, .val (.long q4), .second, .val (.long q5), .second, .val (.int p6), .val (.ref b1), .val (.int (p6 &&& (15 : Int32))), .val (.long (own_b p6 (1 : Int32) q1 q5)), .second, .val (.long (own_b p6 (2 : Int32) q2 q5)), .second, .val (.long (own_b p6 (4 : Int32) q3 q5)), .second, .unset, .unset, .unset, .unset, .unset] [(.long (q4 + q5))])) _
      refine XS.goto X2.here hx rfl (pc0 := 88) (pc' := 93) rfl (hb hby at_88) (by decide) (by decide) ?_
      exact kt
  obtain ⟨T7, h7, X7, e7, E7, A7, D7, -, st7⟩ := newO X2 hx hZ hown (hw _ (List.mem_of_getElem? (i := 0) rfl)) (hw _ (List.mem_of_getElem? (i := 1) rfl)) (hw _ (List.mem_of_getElem? (i := 2) rfl)) rfl (g := (mkF m 95 #[.val (.long q1), .second, .val (.long q2), .second, .val (.long q3), .second, .val (.long q4), .second, .val (.long q5), .second, .val (.int p6), .val (.ref b1), .val (.int (p6 &&& (15 : Int32))), .val (.long (own_b p6 (1 : Int32) q1 q5)), .second, .val (.long (own_b p6 (2 : Int32) q2 q5)), .second, .val (.long (own_b p6 (4 : Int32) q3 q5)), .second, .val (.long (own_b p6 (8 : Int32) q4 q5)), .second, .unset, .unset, .unset] [])) rfl (hb hby at_95) (by decide) (by decide)
  obtain ⟨b7, gq7⟩ : ∃ z, z = T2.heap.size := ⟨_, rfl⟩
  rw [← gq7] at A7 D7 st7
  have g_b7 : n0 ≤ b7 := Nat.le_trans ((O2.1 ▸ O2.2.1) : n0 ≤ T2.heap.size) (Nat.le_of_eq gq7.symm)
  have sz_b7 : h0.size ≤ b7 := Nat.le_trans KK2.1 (Nat.le_of_eq gq7.symm)
  have KK7 : Keep h0 h7 [] := KK2.ext E7
  have O7 := O2.ext E7
  have F_pending_b7 : Fld Z h7 b7 "com/example/bide/bide/QueueCounts" "pending" "J" (.long (0 : Int64)) := D7 (Or.inr (hw _ (List.mem_of_getElem? (i := 10) rfl))) (ty := .long) (by decide)
  have F_due_b7 : Fld Z h7 b7 "com/example/bide/bide/QueueCounts" "due" "J" (.long (0 : Int64)) := D7 (Or.inr (hw _ (List.mem_of_getElem? (i := 12) rfl))) (ty := .long) (by decide)
  have F_leased_b7 : Fld Z h7 b7 "com/example/bide/bide/QueueCounts" "leased" "J" (.long (0 : Int64)) := D7 (Or.inr (hw _ (List.mem_of_getElem? (i := 14) rfl))) (ty := .long) (by decide)
  have F_dead_b7 : Fld Z h7 b7 "com/example/bide/bide/QueueCounts" "dead" "J" (.long (0 : Int64)) := D7 (Or.inr (hw _ (List.mem_of_getElem? (i := 16) rfl))) (ty := .long) (by decide)
  obtain ⟨_, _, ⟨T8, L8, k8, n8⟩, -, X8, ⟨Lc8, hQ8, l8, y8, z8⟩, st8⟩ := X7.specialBack hx (y := (⟨"com/example/bide/bide/QueueCounts", "<init>", "(JJJJ)V"⟩ : MethodName)) rfl hown (mvT hZ (hw _ (List.mem_of_getElem? (i := 3) rfl))) (mvT hZ (hw _ (List.mem_of_getElem? (i := 4) rfl))) (mvT hZ (hw _ (List.mem_of_getElem? (i := 5) rfl))) (by decide) (backOf (W := 1) (rm1_0 l Z a0 hw b7 (own_b p6 (1 : Int32) q1 q5) (own_b p6 (2 : Int32) q2 q5) (own_b p6 (4 : Int32) q3 q5) (own_b p6 (8 : Int32) q4 q5) h7 n0 O7 A7 F_pending_b7 F_due_b7 F_leased_b7 F_dead_b7 g_b7) hZ (hw _ (List.mem_of_getElem? (i := 5) rfl)) (hw _ (List.mem_of_getElem? (i := 2) rfl)) (by decide) (by decide)) (g := (mkF m 107 #[.val (.long q1), .second, .val (.long q2), .second, .val (.long q3), .second, .val (.long q4), .second, .val (.long q5), .second, .val (.int p6), .val (.ref b1), .val (.int (p6 &&& (15 : Int32))), .val (.long (own_b p6 (1 : Int32) q1 q5)), .second, .val (.long (own_b p6 (2 : Int32) q2 q5)), .second, .val (.long (own_b p6 (4 : Int32) q3 q5)), .second, .val (.long (own_b p6 (8 : Int32) q4 q5)), .second, .unset, .unset, .unset] [(.long (own_b p6 (8 : Int32) q4 q5)), (.long (own_b p6 (4 : Int32) q3 q5)), (.long (own_b p6 (2 : Int32) q2 q5)), (.long (own_b p6 (1 : Int32) q1 q5)), (.ref b7), (.ref b7)])) rfl (by rw [hml]; rfl) (Steps.refl _) (a := b7) (argsL := [(.long (own_b p6 (1 : Int32) q1 q5)), (.long (own_b p6 (2 : Int32) q2 q5)), (.long (own_b p6 (4 : Int32) q3 q5)), (.long (own_b p6 (8 : Int32) q4 q5))]) (rest := [(.ref b7)]) (lenOf pd_2 rfl) rfl (by show 2 * 0 + _ ≤ _; exact Nat.le_of_eq rfl) (hb hby at_107) (fun _ _ => ⟨rfl, e7, (by decide : 2 + 0 ≤ _), (by decide : 8 + 0 ≤ _)⟩)
  dsimp only [Pt.U, Pt.locs, Pt.cells, Pt.slots] at X8 l8 y8 z8 st8 hQ8
  subst l8 y8 z8
  obtain ⟨rfl, N8q, K8, f8_0, f8_1, f8_2, f8_3⟩ := hQ8
  have KK8 : Keep h0 T8.heap [] := KK7.trans K8 (allS (Or.inr sz_b7) all0)
  have O8 := O7.keep K8 (allS g_b7 all0)
  have N8 := Fr.app N2 N8q
  have nz9 : b1 ≠ b7 := (Nat.ne_of_lt (Nat.lt_of_lt_of_le (A1.keep K2).lt (Nat.le_of_eq gq7.symm)))
  obtain ⟨cq10, kq10, q10a, q10b, q10c⟩ := isOf hZ rfl (((A1.keep K2).ext E7).keep K8)
  obtain ⟨_, _, ⟨T10, L10, k10, n10⟩, -, X10, ⟨Lc10, hQ10, l10, y10, z10⟩, st10⟩ := X8.virtualBack hx (y := (⟨"com/example/bide/bide/QueueCounts", "equals", "(Ljava/lang/Object;)Z"⟩ : MethodName)) (z := (⟨"com/example/bide/bide/QueueCounts", "equals", "(Ljava/lang/Object;)Z"⟩ : MethodName)) hown (mvT hZ (hw _ (List.mem_of_getElem? (i := 17) rfl))) (mvT hZ (hw _ (List.mem_of_getElem? (i := 18) rfl))) (notFace_of_selects (args := #[]) (mvT hZ (hw _ (List.mem_of_getElem? (i := 20) rfl)))) (mvT hZ (hw _ (List.mem_of_getElem? (i := 20) rfl))) (mvT hZ (hw _ (List.mem_of_getElem? (i := 19) rfl))) (by decide) (backOf (W := 0) (rm3_1 l Z a0 hw b1 b7 q1 (own_b p6 (1 : Int32) q1 q5) T8.heap n0 O8 (A7.keep K8) ((f2_0.ext E7).keep K8 (ninS nz9 nin0)) f8_0 P4) hZ (hw _ (List.mem_of_getElem? (i := 21) rfl)) (hw _ (List.mem_of_getElem? (i := 2) rfl)) (by decide) (by decide)) q10a q10c (g := (mkF m 202 #[.val (.long q1), .second, .val (.long q2), .second, .val (.long q3), .second, .val (.long q4), .second, .val (.long q5), .second, .val (.int p6), .val (.ref b1), .val (.int (p6 &&& (15 : Int32))), .val (.long (own_b p6 (1 : Int32) q1 q5)), .second, .val (.long (own_b p6 (2 : Int32) q2 q5)), .second, .val (.long (own_b p6 (4 : Int32) q3 q5)), .second, .val (.long (own_b p6 (8 : Int32) q4 q5)), .second, .val (.ref b7), .val (.int (0 : Int32)), .val (.int (0 : Int32))] [(.ref b7), (.ref b1)])) rfl (by rw [hml]; rfl) (Steps.refl _) (argsL := [(.ref b7)]) (rest := []) (lenOf pd_4 rfl) rfl (by show 2 * 0 + _ ≤ _; exact Nat.le_of_eq rfl) (hb hby at_202) (fun _ _ => ⟨rfl, rfl, (by decide : 2 + 0 ≤ _), (by decide : 8 + 0 ≤ _)⟩)
  dsimp only [Pt.U, Pt.locs, Pt.cells, Pt.slots] at X10 l10 y10 z10 st10 hQ10
  subst l10 y10 z10
  obtain ⟨rfl, N10q, e10⟩ := hQ10
  have N10 := Fr.app N8 N10q
  obtain ⟨cq11, kq11, q11a, q11b, q11c⟩ := isOf hZ e10 (A7.keep K8)
  obtain ⟨_, _, ⟨T11, L11, k11, n11⟩, -, X11, ⟨Lc11, hQ11, l11, y11, z11⟩, st11⟩ := X10.virtualBack hx (y := (⟨"com/example/bide/bide/QueueCounts", "equals", "(Ljava/lang/Object;)Z"⟩ : MethodName)) (z := (⟨"com/example/bide/bide/QueueCounts", "equals", "(Ljava/lang/Object;)Z"⟩ : MethodName)) hown (mvT hZ (hw _ (List.mem_of_getElem? (i := 17) rfl))) (mvT hZ (hw _ (List.mem_of_getElem? (i := 18) rfl))) (notFace_of_selects (args := #[]) (mvT hZ (hw _ (List.mem_of_getElem? (i := 20) rfl)))) (mvT hZ (hw _ (List.mem_of_getElem? (i := 20) rfl))) (mvT hZ (hw _ (List.mem_of_getElem? (i := 19) rfl))) (by decide) (backOf (W := 0) (rm3_1 l Z a0 hw b7 b1 (own_b p6 (1 : Int32) q1 q5) q1 T8.heap n0 O8 (((A1.keep K2).ext E7).keep K8) f8_0 ((f2_0.ext E7).keep K8 (ninS nz9 nin0)) P5) hZ (hw _ (List.mem_of_getElem? (i := 21) rfl)) (hw _ (List.mem_of_getElem? (i := 2) rfl)) (by decide) (by decide)) q11a q11c (g := (mkF m 214 #[.val (.long q1), .second, .val (.long q2), .second, .val (.long q3), .second, .val (.long q4), .second, .val (.long q5), .second, .val (.int p6), .val (.ref b1), .val (.int (p6 &&& (15 : Int32))), .val (.long (own_b p6 (1 : Int32) q1 q5)), .second, .val (.long (own_b p6 (2 : Int32) q2 q5)), .second, .val (.long (own_b p6 (4 : Int32) q3 q5)), .second, .val (.long (own_b p6 (8 : Int32) q4 q5)), .second, .val (.ref b7), .val (.int (0 : Int32)), .val (.int (0 : Int32))] [(.ref b1), (.ref b7)])) rfl (by rw [hml]; rfl) (Steps.refl _) (argsL := [(.ref b1)]) (rest := []) (lenOf pd_4 rfl) rfl (by show 2 * 0 + _ ≤ _; exact Nat.le_of_eq rfl) (hb hby at_214) (fun _ _ => ⟨rfl, e10, (by decide : 2 + 0 ≤ _), (by decide : 8 + 0 ≤ _)⟩)
  dsimp only [Pt.U, Pt.locs, Pt.cells, Pt.slots] at X11 l11 y11 z11 st11 hQ11
  subst l11 y11 z11
  obtain ⟨rfl, N11q, e11⟩ := hQ11
  have N11 := Fr.app N10 N11q
  obtain ⟨fs, hr, hrun, hended, hW, hsame⟩ := X11.leave (v := some (.int (1 : Int32))) (fun h => by rw [Bd.returns] at h; cases h)
  refine ⟨_, _, pre0 _ ?_, hrun, hended, _, _, rfl, ?_, ⟨_, rfl⟩, hW, hsame.mono (by decide) (by decide)⟩
  · show Steps p.tables e below (s₁.setTop (mkF m 0 #[.val (.long q1), .second, .val (.long q2), .second, .val (.long q3), .second, .val (.long q4), .second, .val (.long q5), .second, .val (.int p6), .unset, .unset, .unset, .unset, .unset, .unset, .unset, .unset, .unset, .unset, .unset, .unset, .unset] [])) _
    refine st1 _ ?_
    show Steps p.tables e below (T1.setTop (mkF m 3 #[.val (.long q1), .second, .val (.long q2), .second, .val (.long q3), .second, .val (.long q4), .second, .val (.long q5), .second, .val (.int p6), .unset, .unset, .unset, .unset, .unset, .unset, .unset, .unset, .unset, .unset, .unset, .unset, .unset] [(.ref b1)])) _
    refine XS.dup X1.here hx rfl (hb hby at_3) rfl rfl ?_
    show Steps p.tables e below (T1.setTop (mkF m 4 #[.val (.long q1), .second, .val (.long q2), .second, .val (.long q3), .second, .val (.long q4), .second, .val (.long q5), .second, .val (.int p6), .unset, .unset, .unset, .unset, .unset, .unset, .unset, .unset, .unset, .unset, .unset, .unset, .unset] [(.ref b1), (.ref b1)])) _
    refine XS.lloadN X1.here hx rfl (hb hby at_4) rfl ?_
    show Steps p.tables e below (T1.setTop (mkF m 5 #[.val (.long q1), .second, .val (.long q2), .second, .val (.long q3), .second, .val (.long q4), .second, .val (.long q5), .second, .val (.int p6), .unset, .unset, .unset, .unset, .unset, .unset, .unset, .unset, .unset, .unset, .unset, .unset, .unset] [(.long q1), (.ref b1), (.ref b1)])) _
    refine XS.lloadN X1.here hx rfl (hb hby at_5) rfl ?_
    show Steps p.tables e below (T1.setTop (mkF m 6 #[.val (.long q1), .second, .val (.long q2), .second, .val (.long q3), .second, .val (.long q4), .second, .val (.long q5), .second, .val (.int p6), .unset, .unset, .unset, .unset, .unset, .unset, .unset, .unset, .unset, .unset, .unset, .unset, .unset] [(.long q2), (.long q1), (.ref b1), (.ref b1)])) _
    refine XS.lload X1.here hx rfl (hb hby at_6) rfl ?_
    show Steps p.tables e below (T1.setTop (mkF m 8 #[.val (.long q1), .second, .val (.long q2), .second, .val (.long q3), .second, .val (.long q4), .second, .val (.long q5), .second, .val (.int p6), .unset, .unset, .unset, .unset, .unset, .unset, .unset, .unset, .unset, .unset, .unset, .unset, .unset] [(.long q3), (.long q2), (.long q1), (.ref b1), (.ref b1)])) _
    refine XS.lload X1.here hx rfl (hb hby at_8) rfl ?_
    show Steps p.tables e below (T1.setTop (mkF m 10 #[.val (.long q1), .second, .val (.long q2), .second, .val (.long q3), .second, .val (.long q4), .second, .val (.long q5), .second, .val (.int p6), .unset, .unset, .unset, .unset, .unset, .unset, .unset, .unset, .unset, .unset, .unset, .unset, .unset] [(.long q4), (.long q3), (.long q2), (.long q1), (.ref b1), (.ref b1)])) _
    refine st2.trans ?_
    show Steps p.tables e below (T2.setTop (mkF m 13 #[.val (.long q1), .second, .val (.long q2), .second, .val (.long q3), .second, .val (.long q4), .second, .val (.long q5), .second, .val (.int p6), .unset, .unset, .unset, .unset, .unset, .unset, .unset, .unset, .unset, .unset, .unset, .unset, .unset] [(.ref b1)])) _
    refine XS.astore X2.here hx rfl (hb hby at_13) rfl rfl (l' := #[.val (.long q1), .second, .val (.long q2), .second, .val (.long q3), .second, .val (.long q4), .second, .val (.long q5), .second, .val (.int p6), .val (.ref b1), .unset, .unset, .unset, .unset, .unset, .unset, .unset, .unset, .unset, .unset, .unset, .unset]) rfl ?_
    show Steps p.tables e below (T2.setTop (mkF m 15 #[.val (.long q1), .second, .val (.long q2), .second, .val (.long q3), .second, .val (.long q4), .second, .val (.long q5), .second, .val (.int p6), .val (.ref b1), .unset, .unset, .unset, .unset, .unset, .unset, .unset, .unset, .unset, .unset, .unset, .unset] [])) _
    refine XS.iload X2.here hx rfl (hb hby at_15) rfl ?_
    show Steps p.tables e below (T2.setTop (mkF m 17 #[.val (.long q1), .second, .val (.long q2), .second, .val (.long q3), .second, .val (.long q4), .second, .val (.long q5), .second, .val (.int p6), .val (.ref b1), .unset, .unset, .unset, .unset, .unset, .unset, .unset, .unset, .unset, .unset, .unset, .unset] [(.int p6)])) _
    refine XS.bipush X2.here hx rfl (hb hby at_17) ?_
    show Steps p.tables e below (T2.setTop (mkF m 19 #[.val (.long q1), .second, .val (.long q2), .second, .val (.long q3), .second, .val (.long q4), .second, .val (.long q5), .second, .val (.int p6), .val (.ref b1), .unset, .unset, .unset, .unset, .unset, .unset, .unset, .unset, .unset, .unset, .unset, .unset] [(.int (15 : Int32)), (.int p6)])) _
    refine XS.iand X2.here hx rfl (hb hby at_19) rfl ?_
    show Steps p.tables e below (T2.setTop (mkF m 20 #[.val (.long q1), .second, .val (.long q2), .second, .val (.long q3), .second, .val (.long q4), .second, .val (.long q5), .second, .val (.int p6), .val (.ref b1), .unset, .unset, .unset, .unset, .unset, .unset, .unset, .unset, .unset, .unset, .unset, .unset] [(.int (p6 &&& (15 : Int32)))])) _
    refine XS.istore X2.here hx rfl (hb hby at_20) rfl (l' := #[.val (.long q1), .second, .val (.long q2), .second, .val (.long q3), .second, .val (.long q4), .second, .val (.long q5), .second, .val (.int p6), .val (.ref b1), .val (.int (p6 &&& (15 : Int32))), .unset, .unset, .unset, .unset, .unset, .unset, .unset, .unset, .unset, .unset, .unset]) rfl ?_
    show Steps p.tables e below (T2.setTop (mkF m 22 #[.val (.long q1), .second, .val (.long q2), .second, .val (.long q3), .second, .val (.long q4), .second, .val (.long q5), .second, .val (.int p6), .val (.ref b1), .val (.int (p6 &&& (15 : Int32))), .unset, .unset, .unset, .unset, .unset, .unset, .unset, .unset, .unset, .unset, .unset] [])) _
    refine XS.iload X2.here hx rfl (hb hby at_22) rfl ?_
    show Steps p.tables e below (T2.setTop (mkF m 24 #[.val (.long q1), .second, .val (.long q2), .second, .val (.long q3), .second, .val (.long q4), .second, .val (.long q5), .second, .val (.int p6), .val (.ref b1), .val (.int (p6 &&& (15 : Int32))), .unset, .unset, .unset, .unset, .unset, .unset, .unset, .unset, .unset, .unset, .unset] [(.int (p6 &&& (15 : Int32)))])) _
    refine XS.iconst X2.here hx rfl (hb hby at_24) ?_
    show Steps p.tables e below (T2.setTop (mkF m 25 #[.val (.long q1), .second, .val (.long q2), .second, .val (.long q3), .second, .val (.long q4), .second, .val (.long q5), .second, .val (.int p6), .val (.ref b1), .val (.int (p6 &&& (15 : Int32))), .unset, .unset, .unset, .unset, .unset, .unset, .unset, .unset, .unset, .unset, .unset] [(.int (1 : Int32)), (.int (p6 &&& (15 : Int32)))])) _
    refine XS.iand X2.here hx rfl (hb hby at_25) rfl ?_
    show Steps p.tables e below (T2.setTop (mkF m 26 #[.val (.long q1), .second, .val (.long q2), .second, .val (.long q3), .second, .val (.long q4), .second, .val (.long q5), .second, .val (.int p6), .val (.ref b1), .val (.int (p6 &&& (15 : Int32))), .unset, .unset, .unset, .unset, .unset, .unset, .unset, .unset, .unset, .unset, .unset] [(.int ((p6 &&& (15 : Int32)) &&& (1 : Int32)))])) _
    refine dm3 _ ?_
    show Steps p.tables e below (T2.setTop (mkF m 37 #[.val (.long q1), .second, .val (.long q2), .second, .val (.long q3), .second, .val (.long q4), .second, .val (.long q5), .second, .val (.int p6), .val (.ref b1), .val (.int (p6 &&& (15 : Int32))), .unset, .unset, .unset, .unset, .unset, .unset, .unset, .unset, .unset, .unset, .unset] [(.long (own_b p6 (1 : Int32) q1 q5))])) _
    refine XS.lstore X2.here hx rfl (hb hby at_37) rfl (l' := #[.val (.long q1), .second, .val (.long q2), .second, .val (.long q3), .second, .val (.long q4), .second, .val (.long q5), .second, .val (.int p6), .val (.ref b1), .val (.int (p6 &&& (15 : Int32))), .val (.long (own_b p6 (1 : Int32) q1 q5)), .second, .unset, .unset, .unset, .unset, .unset, .unset, .unset, .unset, .unset]) rfl ?_
    show Steps p.tables e below (T2.setTop (mkF m 39 #[.val (.long q1), .second, .val (.long q2), .second, .val (.long q3), .second, .val (.long q4), .second, .val (.long q5), .second, .val (.int p6), .val (.ref b1), .val (.int (p6 &&& (15 : Int32))), .val (.long (own_b p6 (1 : Int32) q1 q5)), .second, .unset, .unset, .unset, .unset, .unset, .unset, .unset, .unset, .unset] [])) _
    refine XS.iload X2.here hx rfl (hb hby at_39) rfl ?_
    show Steps p.tables e below (T2.setTop (mkF m 41 #[.val (.long q1), .second, .val (.long q2), .second, .val (.long q3), .second, .val (.long q4), .second, .val (.long q5), .second, .val (.int p6), .val (.ref b1), .val (.int (p6 &&& (15 : Int32))), .val (.long (own_b p6 (1 : Int32) q1 q5)), .second, .unset, .unset, .unset, .unset, .unset, .unset, .unset, .unset, .unset] [(.int (p6 &&& (15 : Int32)))])) _
    refine XS.iconst X2.here hx rfl (hb hby at_41) ?_
    show Steps p.tables e below (T2.setTop (mkF m 42 #[.val (.long q1), .second, .val (.long q2), .second, .val (.long q3), .second, .val (.long q4), .second, .val (.long q5), .second, .val (.int p6), .val (.ref b1), .val (.int (p6 &&& (15 : Int32))), .val (.long (own_b p6 (1 : Int32) q1 q5)), .second, .unset, .unset, .unset, .unset, .unset, .unset, .unset, .unset, .unset] [(.int (2 : Int32)), (.int (p6 &&& (15 : Int32)))])) _
    refine XS.iand X2.here hx rfl (hb hby at_42) rfl ?_
    show Steps p.tables e below (T2.setTop (mkF m 43 #[.val (.long q1), .second, .val (.long q2), .second, .val (.long q3), .second, .val (.long q4), .second, .val (.long q5), .second, .val (.int p6), .val (.ref b1), .val (.int (p6 &&& (15 : Int32))), .val (.long (own_b p6 (1 : Int32) q1 q5)), .second, .unset, .unset, .unset, .unset, .unset, .unset, .unset, .unset, .unset] [(.int ((p6 &&& (15 : Int32)) &&& (2 : Int32)))])) _
    refine dm4 _ ?_
    show Steps p.tables e below (T2.setTop (mkF m 54 #[.val (.long q1), .second, .val (.long q2), .second, .val (.long q3), .second, .val (.long q4), .second, .val (.long q5), .second, .val (.int p6), .val (.ref b1), .val (.int (p6 &&& (15 : Int32))), .val (.long (own_b p6 (1 : Int32) q1 q5)), .second, .unset, .unset, .unset, .unset, .unset, .unset, .unset, .unset, .unset] [(.long (own_b p6 (2 : Int32) q2 q5))])) _
    refine XS.lstore X2.here hx rfl (hb hby at_54) rfl (l' := #[.val (.long q1), .second, .val (.long q2), .second, .val (.long q3), .second, .val (.long q4), .second, .val (.long q5), .second, .val (.int p6), .val (.ref b1), .val (.int (p6 &&& (15 : Int32))), .val (.long (own_b p6 (1 : Int32) q1 q5)), .second, .val (.long (own_b p6 (2 : Int32) q2 q5)), .second, .unset, .unset, .unset, .unset, .unset, .unset, .unset]) rfl ?_
    show Steps p.tables e below (T2.setTop (mkF m 56 #[.val (.long q1), .second, .val (.long q2), .second, .val (.long q3), .second, .val (.long q4), .second, .val (.long q5), .second, .val (.int p6), .val (.ref b1), .val (.int (p6 &&& (15 : Int32))), .val (.long (own_b p6 (1 : Int32) q1 q5)), .second, .val (.long (own_b p6 (2 : Int32) q2 q5)), .second, .unset, .unset, .unset, .unset, .unset, .unset, .unset] [])) _
    refine XS.iload X2.here hx rfl (hb hby at_56) rfl ?_
    show Steps p.tables e below (T2.setTop (mkF m 58 #[.val (.long q1), .second, .val (.long q2), .second, .val (.long q3), .second, .val (.long q4), .second, .val (.long q5), .second, .val (.int p6), .val (.ref b1), .val (.int (p6 &&& (15 : Int32))), .val (.long (own_b p6 (1 : Int32) q1 q5)), .second, .val (.long (own_b p6 (2 : Int32) q2 q5)), .second, .unset, .unset, .unset, .unset, .unset, .unset, .unset] [(.int (p6 &&& (15 : Int32)))])) _
    refine XS.iconst X2.here hx rfl (hb hby at_58) ?_
    show Steps p.tables e below (T2.setTop (mkF m 59 #[.val (.long q1), .second, .val (.long q2), .second, .val (.long q3), .second, .val (.long q4), .second, .val (.long q5), .second, .val (.int p6), .val (.ref b1), .val (.int (p6 &&& (15 : Int32))), .val (.long (own_b p6 (1 : Int32) q1 q5)), .second, .val (.long (own_b p6 (2 : Int32) q2 q5)), .second, .unset, .unset, .unset, .unset, .unset, .unset, .unset] [(.int (4 : Int32)), (.int (p6 &&& (15 : Int32)))])) _
    refine XS.iand X2.here hx rfl (hb hby at_59) rfl ?_
    show Steps p.tables e below (T2.setTop (mkF m 60 #[.val (.long q1), .second, .val (.long q2), .second, .val (.long q3), .second, .val (.long q4), .second, .val (.long q5), .second, .val (.int p6), .val (.ref b1), .val (.int (p6 &&& (15 : Int32))), .val (.long (own_b p6 (1 : Int32) q1 q5)), .second, .val (.long (own_b p6 (2 : Int32) q2 q5)), .second, .unset, .unset, .unset, .unset, .unset, .unset, .unset] [(.int ((p6 &&& (15 : Int32)) &&& (4 : Int32)))])) _
    refine dm5 _ ?_
    show Steps p.tables e below (T2.setTop (mkF m 73 #[.val (.long q1), .second, .val (.long q2), .second, .val (.long q3), .second, .val (.long q4), .second, .val (.long q5), .second, .val (.int p6), .val (.ref b1), .val (.int (p6 &&& (15 : Int32))), .val (.long (own_b p6 (1 : Int32) q1 q5)), .second, .val (.long (own_b p6 (2 : Int32) q2 q5)), .second, .unset, .unset, .unset, .unset, .unset, .unset, .unset] [(.long (own_b p6 (4 : Int32) q3 q5))])) _
    refine XS.lstore X2.here hx rfl (hb hby at_73) rfl (l' := #[.val (.long q1), .second, .val (.long q2), .second, .val (.long q3), .second, .val (.long q4), .second, .val (.long q5), .second, .val (.int p6), .val (.ref b1), .val (.int (p6 &&& (15 : Int32))), .val (.long (own_b p6 (1 : Int32) q1 q5)), .second, .val (.long (own_b p6 (2 : Int32) q2 q5)), .second, .val (.long (own_b p6 (4 : Int32) q3 q5)), .second, .unset, .unset, .unset, .unset, .unset]) rfl ?_
    show Steps p.tables e below (T2.setTop (mkF m 75 #[.val (.long q1), .second, .val (.long q2), .second, .val (.long q3), .second, .val (.long q4), .second, .val (.long q5), .second, .val (.int p6), .val (.ref b1), .val (.int (p6 &&& (15 : Int32))), .val (.long (own_b p6 (1 : Int32) q1 q5)), .second, .val (.long (own_b p6 (2 : Int32) q2 q5)), .second, .val (.long (own_b p6 (4 : Int32) q3 q5)), .second, .unset, .unset, .unset, .unset, .unset] [])) _
    refine XS.iload X2.here hx rfl (hb hby at_75) rfl ?_
    show Steps p.tables e below (T2.setTop (mkF m 77 #[.val (.long q1), .second, .val (.long q2), .second, .val (.long q3), .second, .val (.long q4), .second, .val (.long q5), .second, .val (.int p6), .val (.ref b1), .val (.int (p6 &&& (15 : Int32))), .val (.long (own_b p6 (1 : Int32) q1 q5)), .second, .val (.long (own_b p6 (2 : Int32) q2 q5)), .second, .val (.long (own_b p6 (4 : Int32) q3 q5)), .second, .unset, .unset, .unset, .unset, .unset] [(.int (p6 &&& (15 : Int32)))])) _
    refine XS.bipush X2.here hx rfl (hb hby at_77) ?_
    show Steps p.tables e below (T2.setTop (mkF m 79 #[.val (.long q1), .second, .val (.long q2), .second, .val (.long q3), .second, .val (.long q4), .second, .val (.long q5), .second, .val (.int p6), .val (.ref b1), .val (.int (p6 &&& (15 : Int32))), .val (.long (own_b p6 (1 : Int32) q1 q5)), .second, .val (.long (own_b p6 (2 : Int32) q2 q5)), .second, .val (.long (own_b p6 (4 : Int32) q3 q5)), .second, .unset, .unset, .unset, .unset, .unset] [(.int (8 : Int32)), (.int (p6 &&& (15 : Int32)))])) _
    refine XS.iand X2.here hx rfl (hb hby at_79) rfl ?_
    show Steps p.tables e below (T2.setTop (mkF m 80 #[.val (.long q1), .second, .val (.long q2), .second, .val (.long q3), .second, .val (.long q4), .second, .val (.long q5), .second, .val (.int p6), .val (.ref b1), .val (.int (p6 &&& (15 : Int32))), .val (.long (own_b p6 (1 : Int32) q1 q5)), .second, .val (.long (own_b p6 (2 : Int32) q2 q5)), .second, .val (.long (own_b p6 (4 : Int32) q3 q5)), .second, .unset, .unset, .unset, .unset, .unset] [(.int ((p6 &&& (15 : Int32)) &&& (8 : Int32)))])) _
    refine dm6 _ ?_
    show Steps p.tables e below (T2.setTop (mkF m 93 #[.val (.long q1), .second, .val (.long q2), .second, .val (.long q3), .second, .val (.long q4), .second, .val (.long q5), .second, .val (.int p6), .val (.ref b1), .val (.int (p6 &&& (15 : Int32))), .val (.long (own_b p6 (1 : Int32) q1 q5)), .second, .val (.long (own_b p6 (2 : Int32) q2 q5)), .second, .val (.long (own_b p6 (4 : Int32) q3 q5)), .second, .unset, .unset, .unset, .unset, .unset] [(.long (own_b p6 (8 : Int32) q4 q5))])) _
    refine XS.lstore X2.here hx rfl (hb hby at_93) rfl (l' := #[.val (.long q1), .second, .val (.long q2), .second, .val (.long q3), .second, .val (.long q4), .second, .val (.long q5), .second, .val (.int p6), .val (.ref b1), .val (.int (p6 &&& (15 : Int32))), .val (.long (own_b p6 (1 : Int32) q1 q5)), .second, .val (.long (own_b p6 (2 : Int32) q2 q5)), .second, .val (.long (own_b p6 (4 : Int32) q3 q5)), .second, .val (.long (own_b p6 (8 : Int32) q4 q5)), .second, .unset, .unset, .unset]) rfl ?_
    show Steps p.tables e below (T2.setTop (mkF m 95 #[.val (.long q1), .second, .val (.long q2), .second, .val (.long q3), .second, .val (.long q4), .second, .val (.long q5), .second, .val (.int p6), .val (.ref b1), .val (.int (p6 &&& (15 : Int32))), .val (.long (own_b p6 (1 : Int32) q1 q5)), .second, .val (.long (own_b p6 (2 : Int32) q2 q5)), .second, .val (.long (own_b p6 (4 : Int32) q3 q5)), .second, .val (.long (own_b p6 (8 : Int32) q4 q5)), .second, .unset, .unset, .unset] [])) _
    refine st7 _ ?_
    show Steps p.tables e below (T7.setTop (mkF m 98 #[.val (.long q1), .second, .val (.long q2), .second, .val (.long q3), .second, .val (.long q4), .second, .val (.long q5), .second, .val (.int p6), .val (.ref b1), .val (.int (p6 &&& (15 : Int32))), .val (.long (own_b p6 (1 : Int32) q1 q5)), .second, .val (.long (own_b p6 (2 : Int32) q2 q5)), .second, .val (.long (own_b p6 (4 : Int32) q3 q5)), .second, .val (.long (own_b p6 (8 : Int32) q4 q5)), .second, .unset, .unset, .unset] [(.ref b7)])) _
    refine XS.dup X7.here hx rfl (hb hby at_98) rfl rfl ?_
    show Steps p.tables e below (T7.setTop (mkF m 99 #[.val (.long q1), .second, .val (.long q2), .second, .val (.long q3), .second, .val (.long q4), .second, .val (.long q5), .second, .val (.int p6), .val (.ref b1), .val (.int (p6 &&& (15 : Int32))), .val (.long (own_b p6 (1 : Int32) q1 q5)), .second, .val (.long (own_b p6 (2 : Int32) q2 q5)), .second, .val (.long (own_b p6 (4 : Int32) q3 q5)), .second, .val (.long (own_b p6 (8 : Int32) q4 q5)), .second, .unset, .unset, .unset] [(.ref b7), (.ref b7)])) _
    refine XS.lload X7.here hx rfl (hb hby at_99) rfl ?_
    show Steps p.tables e below (T7.setTop (mkF m 101 #[.val (.long q1), .second, .val (.long q2), .second, .val (.long q3), .second, .val (.long q4), .second, .val (.long q5), .second, .val (.int p6), .val (.ref b1), .val (.int (p6 &&& (15 : Int32))), .val (.long (own_b p6 (1 : Int32) q1 q5)), .second, .val (.long (own_b p6 (2 : Int32) q2 q5)), .second, .val (.long (own_b p6 (4 : Int32) q3 q5)), .second, .val (.long (own_b p6 (8 : Int32) q4 q5)), .second, .unset, .unset, .unset] [(.long (own_b p6 (1 : Int32) q1 q5)), (.ref b7), (.ref b7)])) _
    refine XS.lload X7.here hx rfl (hb hby at_101) rfl ?_
    show Steps p.tables e below (T7.setTop (mkF m 103 #[.val (.long q1), .second, .val (.long q2), .second, .val (.long q3), .second, .val (.long q4), .second, .val (.long q5), .second, .val (.int p6), .val (.ref b1), .val (.int (p6 &&& (15 : Int32))), .val (.long (own_b p6 (1 : Int32) q1 q5)), .second, .val (.long (own_b p6 (2 : Int32) q2 q5)), .second, .val (.long (own_b p6 (4 : Int32) q3 q5)), .second, .val (.long (own_b p6 (8 : Int32) q4 q5)), .second, .unset, .unset, .unset] [(.long (own_b p6 (2 : Int32) q2 q5)), (.long (own_b p6 (1 : Int32) q1 q5)), (.ref b7), (.ref b7)])) _
    refine XS.lload X7.here hx rfl (hb hby at_103) rfl ?_
    show Steps p.tables e below (T7.setTop (mkF m 105 #[.val (.long q1), .second, .val (.long q2), .second, .val (.long q3), .second, .val (.long q4), .second, .val (.long q5), .second, .val (.int p6), .val (.ref b1), .val (.int (p6 &&& (15 : Int32))), .val (.long (own_b p6 (1 : Int32) q1 q5)), .second, .val (.long (own_b p6 (2 : Int32) q2 q5)), .second, .val (.long (own_b p6 (4 : Int32) q3 q5)), .second, .val (.long (own_b p6 (8 : Int32) q4 q5)), .second, .unset, .unset, .unset] [(.long (own_b p6 (4 : Int32) q3 q5)), (.long (own_b p6 (2 : Int32) q2 q5)), (.long (own_b p6 (1 : Int32) q1 q5)), (.ref b7), (.ref b7)])) _
    refine XS.lload X7.here hx rfl (hb hby at_105) rfl ?_
    show Steps p.tables e below (T7.setTop (mkF m 107 #[.val (.long q1), .second, .val (.long q2), .second, .val (.long q3), .second, .val (.long q4), .second, .val (.long q5), .second, .val (.int p6), .val (.ref b1), .val (.int (p6 &&& (15 : Int32))), .val (.long (own_b p6 (1 : Int32) q1 q5)), .second, .val (.long (own_b p6 (2 : Int32) q2 q5)), .second, .val (.long (own_b p6 (4 : Int32) q3 q5)), .second, .val (.long (own_b p6 (8 : Int32) q4 q5)), .second, .unset, .unset, .unset] [(.long (own_b p6 (8 : Int32) q4 q5)), (.long (own_b p6 (4 : Int32) q3 q5)), (.long (own_b p6 (2 : Int32) q2 q5)), (.long (own_b p6 (1 : Int32) q1 q5)), (.ref b7), (.ref b7)])) _
    refine st8.trans ?_
    show Steps p.tables e below (T8.setTop (mkF m 110 #[.val (.long q1), .second, .val (.long q2), .second, .val (.long q3), .second, .val (.long q4), .second, .val (.long q5), .second, .val (.int p6), .val (.ref b1), .val (.int (p6 &&& (15 : Int32))), .val (.long (own_b p6 (1 : Int32) q1 q5)), .second, .val (.long (own_b p6 (2 : Int32) q2 q5)), .second, .val (.long (own_b p6 (4 : Int32) q3 q5)), .second, .val (.long (own_b p6 (8 : Int32) q4 q5)), .second, .unset, .unset, .unset] [(.ref b7)])) _
    refine XS.astore X8.here hx rfl (hb hby at_110) rfl rfl (l' := #[.val (.long q1), .second, .val (.long q2), .second, .val (.long q3), .second, .val (.long q4), .second, .val (.long q5), .second, .val (.int p6), .val (.ref b1), .val (.int (p6 &&& (15 : Int32))), .val (.long (own_b p6 (1 : Int32) q1 q5)), .second, .val (.long (own_b p6 (2 : Int32) q2 q5)), .second, .val (.long (own_b p6 (4 : Int32) q3 q5)), .second, .val (.long (own_b p6 (8 : Int32) q4 q5)), .second, .val (.ref b7), .unset, .unset]) rfl ?_
    show Steps p.tables e below (T8.setTop (mkF m 112 #[.val (.long q1), .second, .val (.long q2), .second, .val (.long q3), .second, .val (.long q4), .second, .val (.long q5), .second, .val (.int p6), .val (.ref b1), .val (.int (p6 &&& (15 : Int32))), .val (.long (own_b p6 (1 : Int32) q1 q5)), .second, .val (.long (own_b p6 (2 : Int32) q2 q5)), .second, .val (.long (own_b p6 (4 : Int32) q3 q5)), .second, .val (.long (own_b p6 (8 : Int32) q4 q5)), .second, .val (.ref b7), .unset, .unset] [])) _
    refine XS.iload X8.here hx rfl (hb hby at_112) rfl ?_
    show Steps p.tables e below (T8.setTop (mkF m 114 #[.val (.long q1), .second, .val (.long q2), .second, .val (.long q3), .second, .val (.long q4), .second, .val (.long q5), .second, .val (.int p6), .val (.ref b1), .val (.int (p6 &&& (15 : Int32))), .val (.long (own_b p6 (1 : Int32) q1 q5)), .second, .val (.long (own_b p6 (2 : Int32) q2 q5)), .second, .val (.long (own_b p6 (4 : Int32) q3 q5)), .second, .val (.long (own_b p6 (8 : Int32) q4 q5)), .second, .val (.ref b7), .unset, .unset] [(.int p6)])) _
    refine XS.iconst X8.here hx rfl (hb hby at_114) ?_
    show Steps p.tables e below (T8.setTop (mkF m 115 #[.val (.long q1), .second, .val (.long q2), .second, .val (.long q3), .second, .val (.long q4), .second, .val (.long q5), .second, .val (.int p6), .val (.ref b1), .val (.int (p6 &&& (15 : Int32))), .val (.long (own_b p6 (1 : Int32) q1 q5)), .second, .val (.long (own_b p6 (2 : Int32) q2 q5)), .second, .val (.long (own_b p6 (4 : Int32) q3 q5)), .second, .val (.long (own_b p6 (8 : Int32) q4 q5)), .second, .val (.ref b7), .unset, .unset] [(.int (4 : Int32)), (.int p6)])) _
    refine XS.iushr X8.here hx rfl (hb hby at_115) rfl ?_
    show Steps p.tables e below (T8.setTop (mkF m 116 #[.val (.long q1), .second, .val (.long q2), .second, .val (.long q3), .second, .val (.long q4), .second, .val (.long q5), .second, .val (.int p6), .val (.ref b1), .val (.int (p6 &&& (15 : Int32))), .val (.long (own_b p6 (1 : Int32) q1 q5)), .second, .val (.long (own_b p6 (2 : Int32) q2 q5)), .second, .val (.long (own_b p6 (4 : Int32) q3 q5)), .second, .val (.long (own_b p6 (8 : Int32) q4 q5)), .second, .val (.ref b7), .unset, .unset] [(.int ((p6.toUInt32 >>> ((4 : Int32) &&& 31).toUInt32).toInt32))])) _
    refine XS.iconst X8.here hx rfl (hb hby at_116) ?_
    show Steps p.tables e below (T8.setTop (mkF m 117 #[.val (.long q1), .second, .val (.long q2), .second, .val (.long q3), .second, .val (.long q4), .second, .val (.long q5), .second, .val (.int p6), .val (.ref b1), .val (.int (p6 &&& (15 : Int32))), .val (.long (own_b p6 (1 : Int32) q1 q5)), .second, .val (.long (own_b p6 (2 : Int32) q2 q5)), .second, .val (.long (own_b p6 (4 : Int32) q3 q5)), .second, .val (.long (own_b p6 (8 : Int32) q4 q5)), .second, .val (.ref b7), .unset, .unset] [(.int (3 : Int32)), (.int ((p6.toUInt32 >>> ((4 : Int32) &&& 31).toUInt32).toInt32))])) _
    refine XS.iand X8.here hx rfl (hb hby at_117) rfl ?_
    show Steps p.tables e below (T8.setTop (mkF m 118 #[.val (.long q1), .second, .val (.long q2), .second, .val (.long q3), .second, .val (.long q4), .second, .val (.long q5), .second, .val (.int p6), .val (.ref b1), .val (.int (p6 &&& (15 : Int32))), .val (.long (own_b p6 (1 : Int32) q1 q5)), .second, .val (.long (own_b p6 (2 : Int32) q2 q5)), .second, .val (.long (own_b p6 (4 : Int32) q3 q5)), .second, .val (.long (own_b p6 (8 : Int32) q4 q5)), .second, .val (.ref b7), .unset, .unset] [(.int (((p6.toUInt32 >>> ((4 : Int32) &&& 31).toUInt32).toInt32) &&& (3 : Int32)))])) _
    rw [P1]
    show Steps p.tables e below (T8.setTop (mkF m 118 #[.val (.long q1), .second, .val (.long q2), .second, .val (.long q3), .second, .val (.long q4), .second, .val (.long q5), .second, .val (.int p6), .val (.ref b1), .val (.int (p6 &&& (15 : Int32))), .val (.long (own_b p6 (1 : Int32) q1 q5)), .second, .val (.long (own_b p6 (2 : Int32) q2 q5)), .second, .val (.long (own_b p6 (4 : Int32) q3 q5)), .second, .val (.long (own_b p6 (8 : Int32) q4 q5)), .second, .val (.ref b7), .unset, .unset] [(.int (0 : Int32))])) _
    refine XS.istore X8.here hx rfl (hb hby at_118) rfl (l' := #[.val (.long q1), .second, .val (.long q2), .second, .val (.long q3), .second, .val (.long q4), .second, .val (.long q5), .second, .val (.int p6), .val (.ref b1), .val (.int (p6 &&& (15 : Int32))), .val (.long (own_b p6 (1 : Int32) q1 q5)), .second, .val (.long (own_b p6 (2 : Int32) q2 q5)), .second, .val (.long (own_b p6 (4 : Int32) q3 q5)), .second, .val (.long (own_b p6 (8 : Int32) q4 q5)), .second, .val (.ref b7), .val (.int (0 : Int32)), .unset]) rfl ?_
    show Steps p.tables e below (T8.setTop (mkF m 120 #[.val (.long q1), .second, .val (.long q2), .second, .val (.long q3), .second, .val (.long q4), .second, .val (.long q5), .second, .val (.int p6), .val (.ref b1), .val (.int (p6 &&& (15 : Int32))), .val (.long (own_b p6 (1 : Int32) q1 q5)), .second, .val (.long (own_b p6 (2 : Int32) q2 q5)), .second, .val (.long (own_b p6 (4 : Int32) q3 q5)), .second, .val (.long (own_b p6 (8 : Int32) q4 q5)), .second, .val (.ref b7), .val (.int (0 : Int32)), .unset] [])) _
    refine XS.iload X8.here hx rfl (hb hby at_120) rfl ?_
    show Steps p.tables e below (T8.setTop (mkF m 122 #[.val (.long q1), .second, .val (.long q2), .second, .val (.long q3), .second, .val (.long q4), .second, .val (.long q5), .second, .val (.int p6), .val (.ref b1), .val (.int (p6 &&& (15 : Int32))), .val (.long (own_b p6 (1 : Int32) q1 q5)), .second, .val (.long (own_b p6 (2 : Int32) q2 q5)), .second, .val (.long (own_b p6 (4 : Int32) q3 q5)), .second, .val (.long (own_b p6 (8 : Int32) q4 q5)), .second, .val (.ref b7), .val (.int (0 : Int32)), .unset] [(.int (0 : Int32))])) _
    refine XS.iconst X8.here hx rfl (hb hby at_122) ?_
    show Steps p.tables e below (T8.setTop (mkF m 123 #[.val (.long q1), .second, .val (.long q2), .second, .val (.long q3), .second, .val (.long q4), .second, .val (.long q5), .second, .val (.int p6), .val (.ref b1), .val (.int (p6 &&& (15 : Int32))), .val (.long (own_b p6 (1 : Int32) q1 q5)), .second, .val (.long (own_b p6 (2 : Int32) q2 q5)), .second, .val (.long (own_b p6 (4 : Int32) q3 q5)), .second, .val (.long (own_b p6 (8 : Int32) q4 q5)), .second, .val (.ref b7), .val (.int (0 : Int32)), .unset] [(.int (1 : Int32)), (.int (0 : Int32))])) _
    refine XS.icmpYes X8.here hx rfl (pc0 := 123) (pc' := 141) rfl (hb hby at_123) rfl (by decide) (by decide) (by decide) ?_
    show Steps p.tables e below (T8.setTop (mkF m 141 #[.val (.long q1), .second, .val (.long q2), .second, .val (.long q3), .second, .val (.long q4), .second, .val (.long q5), .second, .val (.int p6), .val (.ref b1), .val (.int (p6 &&& (15 : Int32))), .val (.long (own_b p6 (1 : Int32) q1 q5)), .second, .val (.long (own_b p6 (2 : Int32) q2 q5)), .second, .val (.long (own_b p6 (4 : Int32) q3 q5)), .second, .val (.long (own_b p6 (8 : Int32) q4 q5)), .second, .val (.ref b7), .val (.int (0 : Int32)), .unset] [])) _
    refine XS.iload X8.here hx rfl (hb hby at_141) rfl ?_
    show Steps p.tables e below (T8.setTop (mkF m 143 #[.val (.long q1), .second, .val (.long q2), .second, .val (.long q3), .second, .val (.long q4), .second, .val (.long q5), .second, .val (.int p6), .val (.ref b1), .val (.int (p6 &&& (15 : Int32))), .val (.long (own_b p6 (1 : Int32) q1 q5)), .second, .val (.long (own_b p6 (2 : Int32) q2 q5)), .second, .val (.long (own_b p6 (4 : Int32) q3 q5)), .second, .val (.long (own_b p6 (8 : Int32) q4 q5)), .second, .val (.ref b7), .val (.int (0 : Int32)), .unset] [(.int (0 : Int32))])) _
    refine XS.iconst X8.here hx rfl (hb hby at_143) ?_
    show Steps p.tables e below (T8.setTop (mkF m 144 #[.val (.long q1), .second, .val (.long q2), .second, .val (.long q3), .second, .val (.long q4), .second, .val (.long q5), .second, .val (.int p6), .val (.ref b1), .val (.int (p6 &&& (15 : Int32))), .val (.long (own_b p6 (1 : Int32) q1 q5)), .second, .val (.long (own_b p6 (2 : Int32) q2 q5)), .second, .val (.long (own_b p6 (4 : Int32) q3 q5)), .second, .val (.long (own_b p6 (8 : Int32) q4 q5)), .second, .val (.ref b7), .val (.int (0 : Int32)), .unset] [(.int (2 : Int32)), (.int (0 : Int32))])) _
    refine XS.icmpYes X8.here hx rfl (pc0 := 144) (pc' := 165) rfl (hb hby at_144) rfl (by decide) (by decide) (by decide) ?_
    show Steps p.tables e below (T8.setTop (mkF m 165 #[.val (.long q1), .second, .val (.long q2), .second, .val (.long q3), .second, .val (.long q4), .second, .val (.long q5), .second, .val (.int p6), .val (.ref b1), .val (.int (p6 &&& (15 : Int32))), .val (.long (own_b p6 (1 : Int32) q1 q5)), .second, .val (.long (own_b p6 (2 : Int32) q2 q5)), .second, .val (.long (own_b p6 (4 : Int32) q3 q5)), .second, .val (.long (own_b p6 (8 : Int32) q4 q5)), .second, .val (.ref b7), .val (.int (0 : Int32)), .unset] [])) _
    refine XS.iload X8.here hx rfl (hb hby at_165) rfl ?_
    show Steps p.tables e below (T8.setTop (mkF m 167 #[.val (.long q1), .second, .val (.long q2), .second, .val (.long q3), .second, .val (.long q4), .second, .val (.long q5), .second, .val (.int p6), .val (.ref b1), .val (.int (p6 &&& (15 : Int32))), .val (.long (own_b p6 (1 : Int32) q1 q5)), .second, .val (.long (own_b p6 (2 : Int32) q2 q5)), .second, .val (.long (own_b p6 (4 : Int32) q3 q5)), .second, .val (.long (own_b p6 (8 : Int32) q4 q5)), .second, .val (.ref b7), .val (.int (0 : Int32)), .unset] [(.int (0 : Int32))])) _
    refine XS.iconst X8.here hx rfl (hb hby at_167) ?_
    show Steps p.tables e below (T8.setTop (mkF m 168 #[.val (.long q1), .second, .val (.long q2), .second, .val (.long q3), .second, .val (.long q4), .second, .val (.long q5), .second, .val (.int p6), .val (.ref b1), .val (.int (p6 &&& (15 : Int32))), .val (.long (own_b p6 (1 : Int32) q1 q5)), .second, .val (.long (own_b p6 (2 : Int32) q2 q5)), .second, .val (.long (own_b p6 (4 : Int32) q3 q5)), .second, .val (.long (own_b p6 (8 : Int32) q4 q5)), .second, .val (.ref b7), .val (.int (0 : Int32)), .unset] [(.int (3 : Int32)), (.int (0 : Int32))])) _
    refine XS.icmpYes X8.here hx rfl (pc0 := 168) (pc' := 179) rfl (hb hby at_168) rfl (by decide) (by decide) (by decide) ?_
    show Steps p.tables e below (T8.setTop (mkF m 179 #[.val (.long q1), .second, .val (.long q2), .second, .val (.long q3), .second, .val (.long q4), .second, .val (.long q5), .second, .val (.int p6), .val (.ref b1), .val (.int (p6 &&& (15 : Int32))), .val (.long (own_b p6 (1 : Int32) q1 q5)), .second, .val (.long (own_b p6 (2 : Int32) q2 q5)), .second, .val (.long (own_b p6 (4 : Int32) q3 q5)), .second, .val (.long (own_b p6 (8 : Int32) q4 q5)), .second, .val (.ref b7), .val (.int (0 : Int32)), .unset] [])) _
    refine XS.iload X8.here hx rfl (hb hby at_179) rfl ?_
    show Steps p.tables e below (T8.setTop (mkF m 181 #[.val (.long q1), .second, .val (.long q2), .second, .val (.long q3), .second, .val (.long q4), .second, .val (.long q5), .second, .val (.int p6), .val (.ref b1), .val (.int (p6 &&& (15 : Int32))), .val (.long (own_b p6 (1 : Int32) q1 q5)), .second, .val (.long (own_b p6 (2 : Int32) q2 q5)), .second, .val (.long (own_b p6 (4 : Int32) q3 q5)), .second, .val (.long (own_b p6 (8 : Int32) q4 q5)), .second, .val (.ref b7), .val (.int (0 : Int32)), .unset] [(.int (p6 &&& (15 : Int32)))])) _
    refine XS.ifNo X8.here hx rfl (hb hby at_181) rfl ((if0 _ _).trans (feq P2).1) ?_
    show Steps p.tables e below (T8.setTop (mkF m 184 #[.val (.long q1), .second, .val (.long q2), .second, .val (.long q3), .second, .val (.long q4), .second, .val (.long q5), .second, .val (.int p6), .val (.ref b1), .val (.int (p6 &&& (15 : Int32))), .val (.long (own_b p6 (1 : Int32) q1 q5)), .second, .val (.long (own_b p6 (2 : Int32) q2 q5)), .second, .val (.long (own_b p6 (4 : Int32) q3 q5)), .second, .val (.long (own_b p6 (8 : Int32) q4 q5)), .second, .val (.ref b7), .val (.int (0 : Int32)), .unset] [])) _
    refine XS.lload X8.here hx rfl (hb hby at_184) rfl ?_
    show Steps p.tables e below (T8.setTop (mkF m 186 #[.val (.long q1), .second, .val (.long q2), .second, .val (.long q3), .second, .val (.long q4), .second, .val (.long q5), .second, .val (.int p6), .val (.ref b1), .val (.int (p6 &&& (15 : Int32))), .val (.long (own_b p6 (1 : Int32) q1 q5)), .second, .val (.long (own_b p6 (2 : Int32) q2 q5)), .second, .val (.long (own_b p6 (4 : Int32) q3 q5)), .second, .val (.long (own_b p6 (8 : Int32) q4 q5)), .second, .val (.ref b7), .val (.int (0 : Int32)), .unset] [(.long q5)])) _
    refine XS.lconst X8.here hx rfl (hb hby at_186) ?_
    show Steps p.tables e below (T8.setTop (mkF m 187 #[.val (.long q1), .second, .val (.long q2), .second, .val (.long q3), .second, .val (.long q4), .second, .val (.long q5), .second, .val (.int p6), .val (.ref b1), .val (.int (p6 &&& (15 : Int32))), .val (.long (own_b p6 (1 : Int32) q1 q5)), .second, .val (.long (own_b p6 (2 : Int32) q2 q5)), .second, .val (.long (own_b p6 (4 : Int32) q3 q5)), .second, .val (.long (own_b p6 (8 : Int32) q4 q5)), .second, .val (.ref b7), .val (.int (0 : Int32)), .unset] [(.long (0 : Int64)), (.long q5)])) _
    refine XS.lcmp X8.here hx rfl (hb hby at_187) rfl ?_
    show Steps p.tables e below (T8.setTop (mkF m 188 #[.val (.long q1), .second, .val (.long q2), .second, .val (.long q3), .second, .val (.long q4), .second, .val (.long q5), .second, .val (.int p6), .val (.ref b1), .val (.int (p6 &&& (15 : Int32))), .val (.long (own_b p6 (1 : Int32) q1 q5)), .second, .val (.long (own_b p6 (2 : Int32) q2 q5)), .second, .val (.long (own_b p6 (4 : Int32) q3 q5)), .second, .val (.long (own_b p6 (8 : Int32) q4 q5)), .second, .val (.ref b7), .val (.int (0 : Int32)), .unset] [(.int (lcmpW q5 (0 : Int64)))])) _
    refine XS.ifYes X8.here hx rfl (pc0 := 188) (pc' := 195) rfl (hb hby at_188) rfl ((if0 _ _).trans (feq P3).2) (by decide) (by decide) ?_
    show Steps p.tables e below (T8.setTop (mkF m 195 #[.val (.long q1), .second, .val (.long q2), .second, .val (.long q3), .second, .val (.long q4), .second, .val (.long q5), .second, .val (.int p6), .val (.ref b1), .val (.int (p6 &&& (15 : Int32))), .val (.long (own_b p6 (1 : Int32) q1 q5)), .second, .val (.long (own_b p6 (2 : Int32) q2 q5)), .second, .val (.long (own_b p6 (4 : Int32) q3 q5)), .second, .val (.long (own_b p6 (8 : Int32) q4 q5)), .second, .val (.ref b7), .val (.int (0 : Int32)), .unset] [])) _
    refine XS.iconst X8.here hx rfl (hb hby at_195) ?_
    show Steps p.tables e below (T8.setTop (mkF m 196 #[.val (.long q1), .second, .val (.long q2), .second, .val (.long q3), .second, .val (.long q4), .second, .val (.long q5), .second, .val (.int p6), .val (.ref b1), .val (.int (p6 &&& (15 : Int32))), .val (.long (own_b p6 (1 : Int32) q1 q5)), .second, .val (.long (own_b p6 (2 : Int32) q2 q5)), .second, .val (.long (own_b p6 (4 : Int32) q3 q5)), .second, .val (.long (own_b p6 (8 : Int32) q4 q5)), .second, .val (.ref b7), .val (.int (0 : Int32)), .unset] [(.int (0 : Int32))])) _
    refine XS.istore X8.here hx rfl (hb hby at_196) rfl (l' := #[.val (.long q1), .second, .val (.long q2), .second, .val (.long q3), .second, .val (.long q4), .second, .val (.long q5), .second, .val (.int p6), .val (.ref b1), .val (.int (p6 &&& (15 : Int32))), .val (.long (own_b p6 (1 : Int32) q1 q5)), .second, .val (.long (own_b p6 (2 : Int32) q2 q5)), .second, .val (.long (own_b p6 (4 : Int32) q3 q5)), .second, .val (.long (own_b p6 (8 : Int32) q4 q5)), .second, .val (.ref b7), .val (.int (0 : Int32)), .val (.int (0 : Int32))]) rfl ?_
    show Steps p.tables e below (T8.setTop (mkF m 198 #[.val (.long q1), .second, .val (.long q2), .second, .val (.long q3), .second, .val (.long q4), .second, .val (.long q5), .second, .val (.int p6), .val (.ref b1), .val (.int (p6 &&& (15 : Int32))), .val (.long (own_b p6 (1 : Int32) q1 q5)), .second, .val (.long (own_b p6 (2 : Int32) q2 q5)), .second, .val (.long (own_b p6 (4 : Int32) q3 q5)), .second, .val (.long (own_b p6 (8 : Int32) q4 q5)), .second, .val (.ref b7), .val (.int (0 : Int32)), .val (.int (0 : Int32))] [])) _
    refine XS.aload X8.here hx rfl (hb hby at_198) rfl rfl ?_
    show Steps p.tables e below (T8.setTop (mkF m 200 #[.val (.long q1), .second, .val (.long q2), .second, .val (.long q3), .second, .val (.long q4), .second, .val (.long q5), .second, .val (.int p6), .val (.ref b1), .val (.int (p6 &&& (15 : Int32))), .val (.long (own_b p6 (1 : Int32) q1 q5)), .second, .val (.long (own_b p6 (2 : Int32) q2 q5)), .second, .val (.long (own_b p6 (4 : Int32) q3 q5)), .second, .val (.long (own_b p6 (8 : Int32) q4 q5)), .second, .val (.ref b7), .val (.int (0 : Int32)), .val (.int (0 : Int32))] [(.ref b1)])) _
    refine XS.aload X8.here hx rfl (hb hby at_200) rfl rfl ?_
    show Steps p.tables e below (T8.setTop (mkF m 202 #[.val (.long q1), .second, .val (.long q2), .second, .val (.long q3), .second, .val (.long q4), .second, .val (.long q5), .second, .val (.int p6), .val (.ref b1), .val (.int (p6 &&& (15 : Int32))), .val (.long (own_b p6 (1 : Int32) q1 q5)), .second, .val (.long (own_b p6 (2 : Int32) q2 q5)), .second, .val (.long (own_b p6 (4 : Int32) q3 q5)), .second, .val (.long (own_b p6 (8 : Int32) q4 q5)), .second, .val (.ref b7), .val (.int (0 : Int32)), .val (.int (0 : Int32))] [(.ref b7), (.ref b1)])) _
    refine st10.trans ?_
    show Steps p.tables e below (T10.setTop (mkF m 205 #[.val (.long q1), .second, .val (.long q2), .second, .val (.long q3), .second, .val (.long q4), .second, .val (.long q5), .second, .val (.int p6), .val (.ref b1), .val (.int (p6 &&& (15 : Int32))), .val (.long (own_b p6 (1 : Int32) q1 q5)), .second, .val (.long (own_b p6 (2 : Int32) q2 q5)), .second, .val (.long (own_b p6 (4 : Int32) q3 q5)), .second, .val (.long (own_b p6 (8 : Int32) q4 q5)), .second, .val (.ref b7), .val (.int (0 : Int32)), .val (.int (0 : Int32))] [(.int (0 : Int32))])) _
    refine XS.iload X10.here hx rfl (hb hby at_205) rfl ?_
    show Steps p.tables e below (T10.setTop (mkF m 207 #[.val (.long q1), .second, .val (.long q2), .second, .val (.long q3), .second, .val (.long q4), .second, .val (.long q5), .second, .val (.int p6), .val (.ref b1), .val (.int (p6 &&& (15 : Int32))), .val (.long (own_b p6 (1 : Int32) q1 q5)), .second, .val (.long (own_b p6 (2 : Int32) q2 q5)), .second, .val (.long (own_b p6 (4 : Int32) q3 q5)), .second, .val (.long (own_b p6 (8 : Int32) q4 q5)), .second, .val (.ref b7), .val (.int (0 : Int32)), .val (.int (0 : Int32))] [(.int (0 : Int32)), (.int (0 : Int32))])) _
    refine XS.icmpNo X10.here hx rfl (hb hby at_207) rfl (by decide) ?_
    show Steps p.tables e below (T10.setTop (mkF m 210 #[.val (.long q1), .second, .val (.long q2), .second, .val (.long q3), .second, .val (.long q4), .second, .val (.long q5), .second, .val (.int p6), .val (.ref b1), .val (.int (p6 &&& (15 : Int32))), .val (.long (own_b p6 (1 : Int32) q1 q5)), .second, .val (.long (own_b p6 (2 : Int32) q2 q5)), .second, .val (.long (own_b p6 (4 : Int32) q3 q5)), .second, .val (.long (own_b p6 (8 : Int32) q4 q5)), .second, .val (.ref b7), .val (.int (0 : Int32)), .val (.int (0 : Int32))] [])) _
    refine XS.aload X10.here hx rfl (hb hby at_210) rfl rfl ?_
    show Steps p.tables e below (T10.setTop (mkF m 212 #[.val (.long q1), .second, .val (.long q2), .second, .val (.long q3), .second, .val (.long q4), .second, .val (.long q5), .second, .val (.int p6), .val (.ref b1), .val (.int (p6 &&& (15 : Int32))), .val (.long (own_b p6 (1 : Int32) q1 q5)), .second, .val (.long (own_b p6 (2 : Int32) q2 q5)), .second, .val (.long (own_b p6 (4 : Int32) q3 q5)), .second, .val (.long (own_b p6 (8 : Int32) q4 q5)), .second, .val (.ref b7), .val (.int (0 : Int32)), .val (.int (0 : Int32))] [(.ref b7)])) _
    refine XS.aload X10.here hx rfl (hb hby at_212) rfl rfl ?_
    show Steps p.tables e below (T10.setTop (mkF m 214 #[.val (.long q1), .second, .val (.long q2), .second, .val (.long q3), .second, .val (.long q4), .second, .val (.long q5), .second, .val (.int p6), .val (.ref b1), .val (.int (p6 &&& (15 : Int32))), .val (.long (own_b p6 (1 : Int32) q1 q5)), .second, .val (.long (own_b p6 (2 : Int32) q2 q5)), .second, .val (.long (own_b p6 (4 : Int32) q3 q5)), .second, .val (.long (own_b p6 (8 : Int32) q4 q5)), .second, .val (.ref b7), .val (.int (0 : Int32)), .val (.int (0 : Int32))] [(.ref b1), (.ref b7)])) _
    refine st11.trans ?_
    show Steps p.tables e below (T11.setTop (mkF m 217 #[.val (.long q1), .second, .val (.long q2), .second, .val (.long q3), .second, .val (.long q4), .second, .val (.long q5), .second, .val (.int p6), .val (.ref b1), .val (.int (p6 &&& (15 : Int32))), .val (.long (own_b p6 (1 : Int32) q1 q5)), .second, .val (.long (own_b p6 (2 : Int32) q2 q5)), .second, .val (.long (own_b p6 (4 : Int32) q3 q5)), .second, .val (.long (own_b p6 (8 : Int32) q4 q5)), .second, .val (.ref b7), .val (.int (0 : Int32)), .val (.int (0 : Int32))] [(.int (0 : Int32))])) _
    refine XS.iload X11.here hx rfl (hb hby at_217) rfl ?_
    show Steps p.tables e below (T11.setTop (mkF m 219 #[.val (.long q1), .second, .val (.long q2), .second, .val (.long q3), .second, .val (.long q4), .second, .val (.long q5), .second, .val (.int p6), .val (.ref b1), .val (.int (p6 &&& (15 : Int32))), .val (.long (own_b p6 (1 : Int32) q1 q5)), .second, .val (.long (own_b p6 (2 : Int32) q2 q5)), .second, .val (.long (own_b p6 (4 : Int32) q3 q5)), .second, .val (.long (own_b p6 (8 : Int32) q4 q5)), .second, .val (.ref b7), .val (.int (0 : Int32)), .val (.int (0 : Int32))] [(.int (0 : Int32)), (.int (0 : Int32))])) _
    refine XS.icmpNo X11.here hx rfl (hb hby at_219) rfl (by decide) ?_
    show Steps p.tables e below (T11.setTop (mkF m 222 #[.val (.long q1), .second, .val (.long q2), .second, .val (.long q3), .second, .val (.long q4), .second, .val (.long q5), .second, .val (.int p6), .val (.ref b1), .val (.int (p6 &&& (15 : Int32))), .val (.long (own_b p6 (1 : Int32) q1 q5)), .second, .val (.long (own_b p6 (2 : Int32) q2 q5)), .second, .val (.long (own_b p6 (4 : Int32) q3 q5)), .second, .val (.long (own_b p6 (8 : Int32) q4 q5)), .second, .val (.ref b7), .val (.int (0 : Int32)), .val (.int (0 : Int32))] [])) _
    refine XS.iconst X11.here hx rfl (hb hby at_222) ?_
    show Steps p.tables e below (T11.setTop (mkF m 223 #[.val (.long q1), .second, .val (.long q2), .second, .val (.long q3), .second, .val (.long q4), .second, .val (.long q5), .second, .val (.int p6), .val (.ref b1), .val (.int (p6 &&& (15 : Int32))), .val (.long (own_b p6 (1 : Int32) q1 q5)), .second, .val (.long (own_b p6 (2 : Int32) q2 q5)), .second, .val (.long (own_b p6 (4 : Int32) q3 q5)), .second, .val (.long (own_b p6 (8 : Int32) q4 q5)), .second, .val (.ref b7), .val (.int (0 : Int32)), .val (.int (0 : Int32))] [(.int (1 : Int32))])) _
    refine XS.goto X11.here hx rfl (pc0 := 223) (pc' := 227) rfl (hb hby at_223) (by decide) (by decide) ?_
    show Steps p.tables e below (T11.setTop (mkF m 227 #[.val (.long q1), .second, .val (.long q2), .second, .val (.long q3), .second, .val (.long q4), .second, .val (.long q5), .second, .val (.int p6), .val (.ref b1), .val (.int (p6 &&& (15 : Int32))), .val (.long (own_b p6 (1 : Int32) q1 q5)), .second, .val (.long (own_b p6 (2 : Int32) q2 q5)), .second, .val (.long (own_b p6 (4 : Int32) q3 q5)), .second, .val (.long (own_b p6 (8 : Int32) q4 q5)), .second, .val (.ref b7), .val (.int (0 : Int32)), .val (.int (0 : Int32))] [(.int (1 : Int32))])) _
    exact retN X11 hx (t := .boolean) Bd.returns (by simp) (hb hby at_227) hr
  · show own_Q1 n0 _ T11.heap _
    rw [e11]
    exact ⟨rfl, N11⟩
set_option maxRecDepth 65536 in
set_option maxHeartbeats 40000000 in
theorem rm3_2 (l : Launch) (Z : State) (a0 : Array Value) (hw : ∀ d ∈ tables_1, d.before a0 Z = true) (r1 : Addr) (r2 : Addr) (q3 : Int64) (q4 : Int64) (q5 : Int64) (q6 : Int64) (h0 : Heap) (n0 : Nat) (O0 : Old Z n0 h0) (P1 : Exa Z h0 r2 "com/example/bide/bide/QueueCounts") (P2 : Fld Z h0 r1 "com/example/bide/bide/QueueCounts" "pending" "J" (.long q3)) (P3 : Fld Z h0 r2 "com/example/bide/bide/QueueCounts" "pending" "J" (.long q4)) (P4 : (lcmpW q3 q4) = (0 : Int32)) (P5 : Fld Z h0 r1 "com/example/bide/bide/QueueCounts" "due" "J" (.long q5)) (P6 : Fld Z h0 r2 "com/example/bide/bide/QueueCounts" "due" "J" (.long q6)) (P7 : ¬ ((lcmpW q5 q6) = (0 : Int32))) :
    MetFree l (⟨"com/example/bide/bide/QueueCounts", "equals", "(Ljava/lang/Object;)Z"⟩ : MethodName) (head1 [Jvm.Cond.code (⟨"com/example/bide/bide/QueueCounts", "equals", "(Ljava/lang/Object;)Z"⟩ : MethodName) prog_3_method_6_code 3 (some .boolean)] ({ frames := 0, cells := 0, slots := 0, locals := 0 } : Room)) (fun a U => a = #[(.ref r1), (.ref r2)] ∧ Z.Warmed39 U.vm ∧ U.heap = h0) (fun _ _ _ _ _ => True) (fun _ U o U' => ∃ v L, o = .returned v ∧ own_QP (some (.int (0 : Int32))) n0 h0 v U'.heap L ∧ FrameEnd U o U' L ({ frames := 0, cells := 0, slots := 0, locals := 0 } : Room).cells ({ frames := 0, cells := 0, slots := 0, locals := 0 } : Room).slots) := by
  refine MetFree.of_bodySF (plainFor_of_name pn_0) hisR ?_
  intro p e s m args below meth c s₁ Bd hml0 hP hK
  obtain ⟨rfl, hZ, hh⟩ := hP
  have hx := Bd.exec
  have hby := Bd.bytes
  have hml : c.maxLocals = 3 := hml0
  have hown : s.vm.findClass "com/example/bide/bide/QueueCounts" = some m.cls := findClass_of_methodNamed Bd.named
  have hnm := (name_of_methodNamed Bd.named Bd.method).1
  have X0 : Stand p l e ({ frames := 0, cells := 0, slots := 0, locals := 0 } : Room) s m #[(.ref r1), (.ref r2)] below meth c s₁ [] 0 0 := Stand.of_body Bd
  have e0 : s₁.heap = h0 := by rw [← hh, Bd.state]; rfl
  have N0 := Fr.nil n0
  have pre0 : ∀ t, Steps p.tables e below (s₁.setTop (mkF m 0 #[.val (.ref r1), .val (.ref r2), .unset] [])) t → Steps p.tables e below (s₁.setTop (entryFrame m #[(.ref r1), (.ref r2)] 3)) t := fun t k => castTop (ef_3_RR m r1 r2) k
  obtain ⟨T1, X1, e1, st1⟩ := instY X0 hx hZ hown (hw _ (List.mem_of_getElem? (i := 22) rfl)) e0 (Ins.self P1) (g := (mkF m 1 #[.val (.ref r1), .val (.ref r2), .unset] [(.ref r2)])) rfl rfl (hb hby d3_1)
  obtain ⟨T2, X2, e2, st2⟩ := castY X1 hx hZ hown (hw _ (List.mem_of_getElem? (i := 22) rfl)) e1 (Ins.self P1) (g := (mkF m 10 #[.val (.ref r1), .val (.ref r2), .unset] [(.ref r2)])) rfl rfl (hb hby d3_10)
  obtain ⟨T3, X3, e3, st3⟩ := getF X2 hx hZ hown (host := "") (Or.inl (hw _ (List.mem_of_getElem? (i := 9) rfl))) Via.refl e2 P2 (g := (mkF m 15 #[.val (.ref r1), .val (.ref r2), .val (.ref r2)] [(.ref r1)])) rfl rfl (hb hby d3_15)
  obtain ⟨T4, X4, e4, st4⟩ := getF X3 hx hZ hown (host := "") (Or.inl (hw _ (List.mem_of_getElem? (i := 9) rfl))) Via.refl e3 P3 (g := (mkF m 19 #[.val (.ref r1), .val (.ref r2), .val (.ref r2)] [(.ref r2), (.long q3)])) rfl rfl (hb hby d3_19)
  obtain ⟨T5, X5, e5, st5⟩ := getF X4 hx hZ hown (host := "") (Or.inl (hw _ (List.mem_of_getElem? (i := 11) rfl))) Via.refl e4 P5 (g := (mkF m 27 #[.val (.ref r1), .val (.ref r2), .val (.ref r2)] [(.ref r1)])) rfl rfl (hb hby d3_27)
  obtain ⟨T6, X6, e6, st6⟩ := getF X5 hx hZ hown (host := "") (Or.inl (hw _ (List.mem_of_getElem? (i := 11) rfl))) Via.refl e5 P6 (g := (mkF m 31 #[.val (.ref r1), .val (.ref r2), .val (.ref r2)] [(.ref r2), (.long q5)])) rfl rfl (hb hby d3_31)
  obtain ⟨fs, hr, hrun, hended, hW, hsame⟩ := X6.leave (v := (some (.int (0 : Int32)))) (fun h => by rw [Bd.returns] at h; cases h)
  refine ⟨_, _, pre0 _ ?_, hrun, hended, _, _, rfl, ?_, ⟨_, rfl⟩, hW, hsame.mono (by decide) (by decide)⟩
  · show Steps p.tables e below (s₁.setTop (mkF m 0 #[.val (.ref r1), .val (.ref r2), .unset] [])) _
    refine XS.aloadN X0.here hx rfl (hb hby d3_0) rfl rfl ?_
    show Steps p.tables e below (s₁.setTop (mkF m 1 #[.val (.ref r1), .val (.ref r2), .unset] [(.ref r2)])) _
    refine st1 _ ?_
    show Steps p.tables e below (T1.setTop (mkF m 4 #[.val (.ref r1), .val (.ref r2), .unset] [(.int (1 : Int32))])) _
    refine XS.ifYes X1.here hx rfl (pc0 := 4) (pc' := 9) rfl (hb hby d3_4) rfl (by decide) (by decide) (by decide) ?_
    show Steps p.tables e below (T1.setTop (mkF m 9 #[.val (.ref r1), .val (.ref r2), .unset] [])) _
    refine XS.aloadN X1.here hx rfl (hb hby d3_9) rfl rfl ?_
    show Steps p.tables e below (T1.setTop (mkF m 10 #[.val (.ref r1), .val (.ref r2), .unset] [(.ref r2)])) _
    refine st2 _ ?_
    show Steps p.tables e below (T2.setTop (mkF m 13 #[.val (.ref r1), .val (.ref r2), .unset] [(.ref r2)])) _
    refine XS.astoreN X2.here hx rfl (hb hby d3_13) rfl rfl (l' := #[.val (.ref r1), .val (.ref r2), .val (.ref r2)]) rfl ?_
    show Steps p.tables e below (T2.setTop (mkF m 14 #[.val (.ref r1), .val (.ref r2), .val (.ref r2)] [])) _
    refine XS.aloadN X2.here hx rfl (hb hby d3_14) rfl rfl ?_
    show Steps p.tables e below (T2.setTop (mkF m 15 #[.val (.ref r1), .val (.ref r2), .val (.ref r2)] [(.ref r1)])) _
    refine st3 _ ?_
    show Steps p.tables e below (T3.setTop (mkF m 18 #[.val (.ref r1), .val (.ref r2), .val (.ref r2)] [(.long q3)])) _
    refine XS.aloadN X3.here hx rfl (hb hby d3_18) rfl rfl ?_
    show Steps p.tables e below (T3.setTop (mkF m 19 #[.val (.ref r1), .val (.ref r2), .val (.ref r2)] [(.ref r2), (.long q3)])) _
    refine st4 _ ?_
    show Steps p.tables e below (T4.setTop (mkF m 22 #[.val (.ref r1), .val (.ref r2), .val (.ref r2)] [(.long q4), (.long q3)])) _
    refine XS.lcmp X4.here hx rfl (hb hby d3_22) rfl ?_
    show Steps p.tables e below (T4.setTop (mkF m 23 #[.val (.ref r1), .val (.ref r2), .val (.ref r2)] [(.int (lcmpW q3 q4))])) _
    refine XS.ifNo X4.here hx rfl (hb hby d3_23) rfl ((if0 _ _).trans (teq P4).2) ?_
    show Steps p.tables e below (T4.setTop (mkF m 26 #[.val (.ref r1), .val (.ref r2), .val (.ref r2)] [])) _
    refine XS.aloadN X4.here hx rfl (hb hby d3_26) rfl rfl ?_
    show Steps p.tables e below (T4.setTop (mkF m 27 #[.val (.ref r1), .val (.ref r2), .val (.ref r2)] [(.ref r1)])) _
    refine st5 _ ?_
    show Steps p.tables e below (T5.setTop (mkF m 30 #[.val (.ref r1), .val (.ref r2), .val (.ref r2)] [(.long q5)])) _
    refine XS.aloadN X5.here hx rfl (hb hby d3_30) rfl rfl ?_
    show Steps p.tables e below (T5.setTop (mkF m 31 #[.val (.ref r1), .val (.ref r2), .val (.ref r2)] [(.ref r2), (.long q5)])) _
    refine st6 _ ?_
    show Steps p.tables e below (T6.setTop (mkF m 34 #[.val (.ref r1), .val (.ref r2), .val (.ref r2)] [(.long q6), (.long q5)])) _
    refine XS.lcmp X6.here hx rfl (hb hby d3_34) rfl ?_
    show Steps p.tables e below (T6.setTop (mkF m 35 #[.val (.ref r1), .val (.ref r2), .val (.ref r2)] [(.int (lcmpW q5 q6))])) _
    refine XS.ifYes X6.here hx rfl (pc0 := 35) (pc' := 66) rfl (hb hby d3_35) rfl ((if0 _ _).trans (feq P7).2) (by decide) (by decide) ?_
    show Steps p.tables e below (T6.setTop (mkF m 66 #[.val (.ref r1), .val (.ref r2), .val (.ref r2)] [])) _
    refine XS.iconst X6.here hx rfl (hb hby d3_66) ?_
    show Steps p.tables e below (T6.setTop (mkF m 67 #[.val (.ref r1), .val (.ref r2), .val (.ref r2)] [(.int (0 : Int32))])) _
    exact retN X6 hx (t := .boolean) Bd.returns (by simp) (hb hby d3_67) hr
  · show own_QP (some (.int (0 : Int32))) n0 h0 _ T6.heap _
    rw [e6]
    exact ⟨rfl, N0, rfl⟩
set_option maxRecDepth 65536 in
set_option maxHeartbeats 40000000 in
theorem law_3 (l : Launch) (Z : State) (a0 : Array Value) (hw : ∀ d ∈ tables_1, d.before a0 Z = true) (ws : List Jvm.Cond) (q1 : Int64) (q2 : Int64) (q3 : Int64) (q4 : Int64) (q5 : Int64) (p6 : Int32) (h0 : Heap) (n0 : Nat) (O0 : Old Z n0 h0) (P1 : (((p6.toUInt32 >>> ((4 : Int32) &&& 31).toUInt32).toInt32) &&& (3 : Int32)) = (0 : Int32)) (P2 : ¬ ((p6 &&& (15 : Int32)) = (0 : Int32))) (P3 : ¬ ((lcmpW q5 (0 : Int64)) = (0 : Int32))) (P4 : (lcmpW q1 (own_b p6 (1 : Int32) q1 q5)) = (0 : Int32)) (P5 : ¬ ((lcmpW q2 (own_b p6 (2 : Int32) q2 q5)) = (0 : Int32))) (P6 : (lcmpW (own_b p6 (1 : Int32) q1 q5) q1) = (0 : Int32)) (P7 : ¬ ((lcmpW (own_b p6 (2 : Int32) q2 q5) q2) = (0 : Int32))) :
    MetFree l x (head1 (Jvm.Cond.code x code maxLocals ret :: ws) room_1) (fun a U => a = #[(.long q1), (.long q2), (.long q3), (.long q4), (.long q5), (.int p6)] ∧ Z.Warmed39 U.vm ∧ U.heap = h0) (fun _ _ _ _ _ => True) (fun _ U o U' => ∃ v L, o = .returned v ∧ own_Q1 n0 v U'.heap L ∧ FrameEnd U o U' L room_1.cells room_1.slots) := by
  refine MetFree.of_bodySF (plainFor_of_name pn_5) hisR ?_
  intro p e s m args below meth c s₁ Bd hml0 hP hK
  obtain ⟨rfl, hZ, hh⟩ := hP
  have hx := Bd.exec
  have hby := Bd.bytes
  have hml : c.maxLocals = 24 := hml0
  have hown : s.vm.findClass "com/example/bide/bide/QueueCountsEqualsPinLaw" = some m.cls := findClass_of_methodNamed Bd.named
  have hnm := (name_of_methodNamed Bd.named Bd.method).1
  have X0 : Stand p l e room_1 s m #[(.long q1), (.long q2), (.long q3), (.long q4), (.long q5), (.int p6)] below meth c s₁ [] 0 0 := Stand.of_body Bd
  have e0 : s₁.heap = h0 := by rw [← hh, Bd.state]; rfl
  have N0 := Fr.nil n0
  have pre0 : ∀ t, Steps p.tables e below (s₁.setTop (mkF m 0 #[.val (.long q1), .second, .val (.long q2), .second, .val (.long q3), .second, .val (.long q4), .second, .val (.long q5), .second, .val (.int p6), .unset, .unset, .unset, .unset, .unset, .unset, .unset, .unset, .unset, .unset, .unset, .unset, .unset] [])) t → Steps p.tables e below (s₁.setTop (entryFrame m #[(.long q1), (.long q2), (.long q3), (.long q4), (.long q5), (.int p6)] maxLocals)) t := fun t k => castTop (ef_0_JJJJJI m q1 q2 q3 q4 q5 p6) k
  obtain ⟨T1, h1, X1, e1, E1, A1, D1, -, st1⟩ := newO X0 hx hZ hown (hw _ (List.mem_of_getElem? (i := 0) rfl)) (hw _ (List.mem_of_getElem? (i := 1) rfl)) (hw _ (List.mem_of_getElem? (i := 2) rfl)) e0 (g := (mkF m 0 #[.val (.long q1), .second, .val (.long q2), .second, .val (.long q3), .second, .val (.long q4), .second, .val (.long q5), .second, .val (.int p6), .unset, .unset, .unset, .unset, .unset, .unset, .unset, .unset, .unset, .unset, .unset, .unset, .unset] [])) rfl (hb hby at_0) (by decide) (by decide)
  obtain ⟨b1, gq1⟩ : ∃ z, z = h0.size := ⟨_, rfl⟩
  rw [← gq1] at A1 D1 st1
  have g_b1 : n0 ≤ b1 := Nat.le_trans ((O0.1 ▸ O0.2.1) : n0 ≤ h0.size) (Nat.le_of_eq gq1.symm)
  have sz_b1 : h0.size ≤ b1 := Nat.le_trans (Keep.refl h0 []).1 (Nat.le_of_eq gq1.symm)
  have KK1 : Keep h0 h1 [] := (Keep.refl h0 []).ext E1
  have O1 := O0.ext E1
  have F_pending_b1 : Fld Z h1 b1 "com/example/bide/bide/QueueCounts" "pending" "J" (.long (0 : Int64)) := D1 (Or.inr (hw _ (List.mem_of_getElem? (i := 10) rfl))) (ty := .long) (by decide)
  have F_due_b1 : Fld Z h1 b1 "com/example/bide/bide/QueueCounts" "due" "J" (.long (0 : Int64)) := D1 (Or.inr (hw _ (List.mem_of_getElem? (i := 12) rfl))) (ty := .long) (by decide)
  have F_leased_b1 : Fld Z h1 b1 "com/example/bide/bide/QueueCounts" "leased" "J" (.long (0 : Int64)) := D1 (Or.inr (hw _ (List.mem_of_getElem? (i := 14) rfl))) (ty := .long) (by decide)
  have F_dead_b1 : Fld Z h1 b1 "com/example/bide/bide/QueueCounts" "dead" "J" (.long (0 : Int64)) := D1 (Or.inr (hw _ (List.mem_of_getElem? (i := 16) rfl))) (ty := .long) (by decide)
  obtain ⟨_, _, ⟨T2, L2, k2, n2⟩, -, X2, ⟨Lc2, hQ2, l2, y2, z2⟩, st2⟩ := X1.specialBack hx (y := (⟨"com/example/bide/bide/QueueCounts", "<init>", "(JJJJ)V"⟩ : MethodName)) rfl hown (mvT hZ (hw _ (List.mem_of_getElem? (i := 3) rfl))) (mvT hZ (hw _ (List.mem_of_getElem? (i := 4) rfl))) (mvT hZ (hw _ (List.mem_of_getElem? (i := 5) rfl))) (by decide) (backOf (W := 1) (rm1_0 l Z a0 hw b1 q1 q2 q3 q4 h1 n0 O1 A1 F_pending_b1 F_due_b1 F_leased_b1 F_dead_b1 g_b1) hZ (hw _ (List.mem_of_getElem? (i := 5) rfl)) (hw _ (List.mem_of_getElem? (i := 2) rfl)) (by decide) (by decide)) (g := (mkF m 10 #[.val (.long q1), .second, .val (.long q2), .second, .val (.long q3), .second, .val (.long q4), .second, .val (.long q5), .second, .val (.int p6), .unset, .unset, .unset, .unset, .unset, .unset, .unset, .unset, .unset, .unset, .unset, .unset, .unset] [(.long q4), (.long q3), (.long q2), (.long q1), (.ref b1), (.ref b1)])) rfl (by rw [hml]; rfl) (Steps.refl _) (a := b1) (argsL := [(.long q1), (.long q2), (.long q3), (.long q4)]) (rest := [(.ref b1)]) (lenOf pd_2 rfl) rfl (by show 2 * 0 + _ ≤ _; exact Nat.le_of_eq rfl) (hb hby at_10) (fun _ _ => ⟨rfl, e1, (by decide : 1 + 0 ≤ _), (by decide : 4 + 0 ≤ _)⟩)
  dsimp only [Pt.U, Pt.locs, Pt.cells, Pt.slots] at X2 l2 y2 z2 st2 hQ2
  subst l2 y2 z2
  obtain ⟨rfl, N2q, K2, f2_0, f2_1, f2_2, f2_3⟩ := hQ2
  have KK2 : Keep h0 T2.heap [] := KK1.trans K2 (allS (Or.inr sz_b1) all0)
  have O2 := O1.keep K2 (allS g_b1 all0)
  have N2 := Fr.app N0 N2q
  have dm3 : ∀ target, Steps p.tables e below (T2.setTop (mkF m 37 #[.val (.long q1), .second, .val (.long q2), .second, .val (.long q3), .second, .val (.long q4), .second, .val (.long q5), .second, .val (.int p6), .val (.ref b1), .val (.int (p6 &&& (15 : Int32))), .unset, .unset, .unset, .unset, .unset, .unset, .unset, .unset, .unset, .unset, .unset] [(.long (own_b p6 (1 : Int32) q1 q5))])) target → Steps p.tables e below (T2.setTop (mkF m 26 #[.val (.long q1), .second, .val (.long q2), .second, .val (.long q3), .second, .val (.long q4), .second, .val (.long q5), .second, .val (.int p6), .val (.ref b1), .val (.int (p6 &&& (15 : Int32))), .unset, .unset, .unset, .unset, .unset, .unset, .unset, .unset, .unset, .unset, .unset] [(.int ((p6 &&& (15 : Int32)) &&& (1 : Int32)))])) target := by
    intro target kt
    by_cases hdb : ((p6 &&& (15 : Int32)) &&& (1 : Int32)) = (0 : Int32)
    · rw [own_b_pos hdb] at kt
      show Steps p.tables e below (T2.setTop (mkF m 26 #[.val (.long q1), .second, .val (.long q2), .second, .val (.long q3), .second, .val (.long q4), .second, .val (.long q5), .second, .val (.int p6), .val (.ref b1), .val (.int (p6 &&& (15 : Int32))), .unset, .unset, .unset, .unset, .unset, .unset, .unset, .unset, .unset, .unset, .unset] [(.int ((p6 &&& (15 : Int32)) &&& (1 : Int32)))])) _
      refine XS.ifYes X2.here hx rfl (pc0 := 26) (pc' := 36) rfl (hb hby at_26) rfl ((if0 _ _).trans (teq hdb).1) (by decide) (by decide) ?_
      show Steps p.tables e below (T2.setTop (mkF m 36 #[.val (.long q1), .second, .val (.long q2), .second, .val (.long q3), .second, .val (.long q4), .second, .val (.long q5), .second, .val (.int p6), .val (.ref b1), .val (.int (p6 &&& (15 : Int32))), .unset, .unset, .unset, .unset, .unset, .unset, .unset, .unset, .unset, .unset, .unset] [])) _
      refine XS.lloadN X2.here hx rfl (hb hby at_36) rfl ?_
      exact kt
    · rw [own_b_neg hdb] at kt
      show Steps p.tables e below (T2.setTop (mkF m 26 #[.val (.long q1), .second, .val (.long q2), .second, .val (.long q3), .second, .val (.long q4), .second, .val (.long q5), .second, .val (.int p6), .val (.ref b1), .val (.int (p6 &&& (15 : Int32))), .unset, .unset, .unset, .unset, .unset, .unset, .unset, .unset, .unset, .unset, .unset] [(.int ((p6 &&& (15 : Int32)) &&& (1 : Int32)))])) _
      refine XS.ifNo X2.here hx rfl (hb hby at_26) rfl ((if0 _ _).trans (feq hdb).1) ?_
      show Steps p.tables e below (T2.setTop (mkF m 29 #[.val (.long q1), .second, .val (.long q2), .second, .val (.long q3), .second, .val (.long q4), .second, .val (.long q5), .second, .val (.int p6), .val (.ref b1), .val (.int (p6 &&& (15 : Int32))), .unset, .unset, .unset, .unset, .unset, .unset, .unset, .unset, .unset, .unset, .unset] [])) _
      refine XS.lloadN X2.here hx rfl (hb hby at_29) rfl ?_
      show Steps p.tables e below (T2.setTop (mkF m 30 #[.val (.long q1), .second, .val (.long q2), .second, .val (.long q3), .second, .val (.long q4), .second, .val (.long q5), .second, .val (.int p6), .val (.ref b1), .val (.int (p6 &&& (15 : Int32))), .unset, .unset, .unset, .unset, .unset, .unset, .unset, .unset, .unset, .unset, .unset] [(.long q1)])) _
      refine XS.lload X2.here hx rfl (hb hby at_30) rfl ?_
      show Steps p.tables e below (T2.setTop (mkF m 32 #[.val (.long q1), .second, .val (.long q2), .second, .val (.long q3), .second, .val (.long q4), .second, .val (.long q5), .second, .val (.int p6), .val (.ref b1), .val (.int (p6 &&& (15 : Int32))), .unset, .unset, .unset, .unset, .unset, .unset, .unset, .unset, .unset, .unset, .unset] [(.long q5), (.long q1)])) _
      refine XS.ladd X2.here hx rfl (hb hby at_32) rfl ?_
      show Steps p.tables e below (T2.setTop (mkF m 33 #[.val (.long q1), .second, .val (.long q2), .second, .val (.long q3), .second, .val (.long q4), .second, .val (.long q5), .second, .val (.int p6), .val (.ref b1), .val (.int (p6 &&& (15 : Int32))), .unset, .unset, .unset, .unset, .unset, .unset, .unset, .unset, .unset, .unset, .unset] [(.long (q1 + q5))])) _
      refine XS.goto X2.here hx rfl (pc0 := 33) (pc' := 37) rfl (hb hby at_33) (by decide) (by decide) ?_
      exact kt
  have dm4 : ∀ target, Steps p.tables e below (T2.setTop (mkF m 54 #[.val (.long q1), .second, .val (.long q2), .second, .val (.long q3), .second, .val (.long q4), .second, .val (.long q5), .second, .val (.int p6), .val (.ref b1), .val (.int (p6 &&& (15 : Int32))), .val (.long (own_b p6 (1 : Int32) q1 q5)), .second, .unset, .unset, .unset, .unset, .unset, .unset, .unset, .unset, .unset] [(.long (own_b p6 (2 : Int32) q2 q5))])) target → Steps p.tables e below (T2.setTop (mkF m 43 #[.val (.long q1), .second, .val (.long q2), .second, .val (.long q3), .second, .val (.long q4), .second, .val (.long q5), .second, .val (.int p6), .val (.ref b1), .val (.int (p6 &&& (15 : Int32))), .val (.long (own_b p6 (1 : Int32) q1 q5)), .second, .unset, .unset, .unset, .unset, .unset, .unset, .unset, .unset, .unset] [(.int ((p6 &&& (15 : Int32)) &&& (2 : Int32)))])) target := by
    intro target kt
    by_cases hdb : ((p6 &&& (15 : Int32)) &&& (2 : Int32)) = (0 : Int32)
    · rw [own_b_pos hdb] at kt
      show Steps p.tables e below (T2.setTop (mkF m 43 #[.val (.long q1), .second, .val (.long q2), .second, .val (.long q3), .second, .val (.long q4), .second, .val (.long q5), .second, .val (.int p6), .val (.ref b1), .val (.int (p6 &&& (15 : Int32))), .val (.long (own_b p6 (1 : Int32) q1 q5)), .second, .unset, .unset, .unset, .unset, .unset, .unset, .unset, .unset, .unset] [(.int ((p6 &&& (15 : Int32)) &&& (2 : Int32)))])) _
      refine XS.ifYes X2.here hx rfl (pc0 := 43) (pc' := 53) rfl (hb hby at_43) rfl ((if0 _ _).trans (teq hdb).1) (by decide) (by decide) ?_
      show Steps p.tables e below (T2.setTop (mkF m 53 #[.val (.long q1), .second, .val (.long q2), .second, .val (.long q3), .second, .val (.long q4), .second, .val (.long q5), .second, .val (.int p6), .val (.ref b1), .val (.int (p6 &&& (15 : Int32))), .val (.long (own_b p6 (1 : Int32) q1 q5)), .second, .unset, .unset, .unset, .unset, .unset, .unset, .unset, .unset, .unset] [])) _
      refine XS.lloadN X2.here hx rfl (hb hby at_53) rfl ?_
      exact kt
    · rw [own_b_neg hdb] at kt
      show Steps p.tables e below (T2.setTop (mkF m 43 #[.val (.long q1), .second, .val (.long q2), .second, .val (.long q3), .second, .val (.long q4), .second, .val (.long q5), .second, .val (.int p6), .val (.ref b1), .val (.int (p6 &&& (15 : Int32))), .val (.long (own_b p6 (1 : Int32) q1 q5)), .second, .unset, .unset, .unset, .unset, .unset, .unset, .unset, .unset, .unset] [(.int ((p6 &&& (15 : Int32)) &&& (2 : Int32)))])) _
      refine XS.ifNo X2.here hx rfl (hb hby at_43) rfl ((if0 _ _).trans (feq hdb).1) ?_
      show Steps p.tables e below (T2.setTop (mkF m 46 #[.val (.long q1), .second, .val (.long q2), .second, .val (.long q3), .second, .val (.long q4), .second, .val (.long q5), .second, .val (.int p6), .val (.ref b1), .val (.int (p6 &&& (15 : Int32))), .val (.long (own_b p6 (1 : Int32) q1 q5)), .second, .unset, .unset, .unset, .unset, .unset, .unset, .unset, .unset, .unset] [])) _
      refine XS.lloadN X2.here hx rfl (hb hby at_46) rfl ?_
      show Steps p.tables e below (T2.setTop (mkF m 47 #[.val (.long q1), .second, .val (.long q2), .second, .val (.long q3), .second, .val (.long q4), .second, .val (.long q5), .second, .val (.int p6), .val (.ref b1), .val (.int (p6 &&& (15 : Int32))), .val (.long (own_b p6 (1 : Int32) q1 q5)), .second, .unset, .unset, .unset, .unset, .unset, .unset, .unset, .unset, .unset] [(.long q2)])) _
      refine XS.lload X2.here hx rfl (hb hby at_47) rfl ?_
      show Steps p.tables e below (T2.setTop (mkF m 49 #[.val (.long q1), .second, .val (.long q2), .second, .val (.long q3), .second, .val (.long q4), .second, .val (.long q5), .second, .val (.int p6), .val (.ref b1), .val (.int (p6 &&& (15 : Int32))), .val (.long (own_b p6 (1 : Int32) q1 q5)), .second, .unset, .unset, .unset, .unset, .unset, .unset, .unset, .unset, .unset] [(.long q5), (.long q2)])) _
      refine XS.ladd X2.here hx rfl (hb hby at_49) rfl ?_
      show Steps p.tables e below (T2.setTop (mkF m 50 #[.val (.long q1), .second, .val (.long q2), .second, .val (.long q3), .second, .val (.long q4), .second, .val (.long q5), .second, .val (.int p6), .val (.ref b1), .val (.int (p6 &&& (15 : Int32))), .val (.long (own_b p6 (1 : Int32) q1 q5)), .second, .unset, .unset, .unset, .unset, .unset, .unset, .unset, .unset, .unset] [(.long (q2 + q5))])) _
      refine XS.goto X2.here hx rfl (pc0 := 50) (pc' := 54) rfl (hb hby at_50) (by decide) (by decide) ?_
      exact kt
  have dm5 : ∀ target, Steps p.tables e below (T2.setTop (mkF m 73 #[.val (.long q1), .second, .val (.long q2), .second, .val (.long q3), .second, .val (.long q4), .second, .val (.long q5), .second, .val (.int p6), .val (.ref b1), .val (.int (p6 &&& (15 : Int32))), .val (.long (own_b p6 (1 : Int32) q1 q5)), .second, .val (.long (own_b p6 (2 : Int32) q2 q5)), .second, .unset, .unset, .unset, .unset, .unset, .unset, .unset] [(.long (own_b p6 (4 : Int32) q3 q5))])) target → Steps p.tables e below (T2.setTop (mkF m 60 #[.val (.long q1), .second, .val (.long q2), .second, .val (.long q3), .second, .val (.long q4), .second, .val (.long q5), .second, .val (.int p6), .val (.ref b1), .val (.int (p6 &&& (15 : Int32))), .val (.long (own_b p6 (1 : Int32) q1 q5)), .second, .val (.long (own_b p6 (2 : Int32) q2 q5)), .second, .unset, .unset, .unset, .unset, .unset, .unset, .unset] [(.int ((p6 &&& (15 : Int32)) &&& (4 : Int32)))])) target := by
    intro target kt
    by_cases hdb : ((p6 &&& (15 : Int32)) &&& (4 : Int32)) = (0 : Int32)
    · rw [own_b_pos hdb] at kt
      show Steps p.tables e below (T2.setTop (mkF m 60 #[.val (.long q1), .second, .val (.long q2), .second, .val (.long q3), .second, .val (.long q4), .second, .val (.long q5), .second, .val (.int p6), .val (.ref b1), .val (.int (p6 &&& (15 : Int32))), .val (.long (own_b p6 (1 : Int32) q1 q5)), .second, .val (.long (own_b p6 (2 : Int32) q2 q5)), .second, .unset, .unset, .unset, .unset, .unset, .unset, .unset] [(.int ((p6 &&& (15 : Int32)) &&& (4 : Int32)))])) _
      refine XS.ifYes X2.here hx rfl (pc0 := 60) (pc' := 71) rfl (hb hby at_60) rfl ((if0 _ _).trans (teq hdb).1) (by decide) (by decide) ?_
      show Steps p.tables e below (T2.setTop (mkF m 71 #[.val (.long q1), .second, .val (.long q2), .second, .val (.long q3), .second, .val (.long q4), .second, .val (.long q5), .second, .val (.int p6), .val (.ref b1), .val (.int (p6 &&& (15 : Int32))), .val (.long (own_b p6 (1 : Int32) q1 q5)), .second, .val (.long (own_b p6 (2 : Int32) q2 q5)), .second, .unset, .unset, .unset, .unset, .unset, .unset, .unset] [])) _
      refine XS.lload X2.here hx rfl (hb hby at_71) rfl ?_
      exact kt
    · rw [own_b_neg hdb] at kt
      show Steps p.tables e below (T2.setTop (mkF m 60 #[.val (.long q1), .second, .val (.long q2), .second, .val (.long q3), .second, .val (.long q4), .second, .val (.long q5), .second, .val (.int p6), .val (.ref b1), .val (.int (p6 &&& (15 : Int32))), .val (.long (own_b p6 (1 : Int32) q1 q5)), .second, .val (.long (own_b p6 (2 : Int32) q2 q5)), .second, .unset, .unset, .unset, .unset, .unset, .unset, .unset] [(.int ((p6 &&& (15 : Int32)) &&& (4 : Int32)))])) _
      refine XS.ifNo X2.here hx rfl (hb hby at_60) rfl ((if0 _ _).trans (feq hdb).1) ?_
      show Steps p.tables e below (T2.setTop (mkF m 63 #[.val (.long q1), .second, .val (.long q2), .second, .val (.long q3), .second, .val (.long q4), .second, .val (.long q5), .second, .val (.int p6), .val (.ref b1), .val (.int (p6 &&& (15 : Int32))), .val (.long (own_b p6 (1 : Int32) q1 q5)), .second, .val (.long (own_b p6 (2 : Int32) q2 q5)), .second, .unset, .unset, .unset, .unset, .unset, .unset, .unset] [])) _
      refine XS.lload X2.here hx rfl (hb hby at_63) rfl ?_
      show Steps p.tables e below (T2.setTop (mkF m 65 #[.val (.long q1), .second, .val (.long q2), .second, .val (.long q3), .second, .val (.long q4), .second, .val (.long q5), .second, .val (.int p6), .val (.ref b1), .val (.int (p6 &&& (15 : Int32))), .val (.long (own_b p6 (1 : Int32) q1 q5)), .second, .val (.long (own_b p6 (2 : Int32) q2 q5)), .second, .unset, .unset, .unset, .unset, .unset, .unset, .unset] [(.long q3)])) _
      refine XS.lload X2.here hx rfl (hb hby at_65) rfl ?_
      show Steps p.tables e below (T2.setTop (mkF m 67 #[.val (.long q1), .second, .val (.long q2), .second, .val (.long q3), .second, .val (.long q4), .second, .val (.long q5), .second, .val (.int p6), .val (.ref b1), .val (.int (p6 &&& (15 : Int32))), .val (.long (own_b p6 (1 : Int32) q1 q5)), .second, .val (.long (own_b p6 (2 : Int32) q2 q5)), .second, .unset, .unset, .unset, .unset, .unset, .unset, .unset] [(.long q5), (.long q3)])) _
      refine XS.ladd X2.here hx rfl (hb hby at_67) rfl ?_
      show Steps p.tables e below (T2.setTop (mkF m 68 #[.val (.long q1), .second, .val (.long q2), .second, .val (.long q3), .second, .val (.long q4), .second, .val (.long q5), .second, .val (.int p6), .val (.ref b1), .val (.int (p6 &&& (15 : Int32))), .val (.long (own_b p6 (1 : Int32) q1 q5)), .second, .val (.long (own_b p6 (2 : Int32) q2 q5)), .second, .unset, .unset, .unset, .unset, .unset, .unset, .unset] [(.long (q3 + q5))])) _
      refine XS.goto X2.here hx rfl (pc0 := 68) (pc' := 73) rfl (hb hby at_68) (by decide) (by decide) ?_
      exact kt
  have dm6 : ∀ target, Steps p.tables e below (T2.setTop (mkF m 93 #[.val (.long q1), .second, .val (.long q2), .second, .val (.long q3), .second, .val (.long q4), .second, .val (.long q5), .second, .val (.int p6), .val (.ref b1), .val (.int (p6 &&& (15 : Int32))), .val (.long (own_b p6 (1 : Int32) q1 q5)), .second, .val (.long (own_b p6 (2 : Int32) q2 q5)), .second, .val (.long (own_b p6 (4 : Int32) q3 q5)), .second, .unset, .unset, .unset, .unset, .unset] [(.long (own_b p6 (8 : Int32) q4 q5))])) target → Steps p.tables e below (T2.setTop (mkF m 80 #[.val (.long q1), .second, .val (.long q2), .second, .val (.long q3), .second, .val (.long q4), .second, .val (.long q5), .second, .val (.int p6), .val (.ref b1), .val (.int (p6 &&& (15 : Int32))), .val (.long (own_b p6 (1 : Int32) q1 q5)), .second, .val (.long (own_b p6 (2 : Int32) q2 q5)), .second, .val (.long (own_b p6 (4 : Int32) q3 q5)), .second, .unset, .unset, .unset, .unset, .unset] [(.int ((p6 &&& (15 : Int32)) &&& (8 : Int32)))])) target := by
    intro target kt
    by_cases hdb : ((p6 &&& (15 : Int32)) &&& (8 : Int32)) = (0 : Int32)
    · rw [own_b_pos hdb] at kt
      show Steps p.tables e below (T2.setTop (mkF m 80 #[.val (.long q1), .second, .val (.long q2), .second, .val (.long q3), .second, .val (.long q4), .second, .val (.long q5), .second, .val (.int p6), .val (.ref b1), .val (.int (p6 &&& (15 : Int32))), .val (.long (own_b p6 (1 : Int32) q1 q5)), .second, .val (.long (own_b p6 (2 : Int32) q2 q5)), .second, .val (.long (own_b p6 (4 : Int32) q3 q5)), .second, .unset, .unset, .unset, .unset, .unset] [(.int ((p6 &&& (15 : Int32)) &&& (8 : Int32)))])) _
      refine XS.ifYes X2.here hx rfl (pc0 := 80) (pc' := 91) rfl (hb hby at_80) rfl ((if0 _ _).trans (teq hdb).1) (by decide) (by decide) ?_
      show Steps p.tables e below (T2.setTop (mkF m 91 #[.val (.long q1), .second, .val (.long q2), .second, .val (.long q3), .second, .val (.long q4), .second, .val (.long q5), .second, .val (.int p6), .val (.ref b1), .val (.int (p6 &&& (15 : Int32))), .val (.long (own_b p6 (1 : Int32) q1 q5)), .second, .val (.long (own_b p6 (2 : Int32) q2 q5)), .second, .val (.long (own_b p6 (4 : Int32) q3 q5)), .second, .unset, .unset, .unset, .unset, .unset] [])) _
      refine XS.lload X2.here hx rfl (hb hby at_91) rfl ?_
      exact kt
    · rw [own_b_neg hdb] at kt
      show Steps p.tables e below (T2.setTop (mkF m 80 #[.val (.long q1), .second, .val (.long q2), .second, .val (.long q3), .second, .val (.long q4), .second, .val (.long q5), .second, .val (.int p6), .val (.ref b1), .val (.int (p6 &&& (15 : Int32))), .val (.long (own_b p6 (1 : Int32) q1 q5)), .second, .val (.long (own_b p6 (2 : Int32) q2 q5)), .second, .val (.long (own_b p6 (4 : Int32) q3 q5)), .second, .unset, .unset, .unset, .unset, .unset] [(.int ((p6 &&& (15 : Int32)) &&& (8 : Int32)))])) _
      refine XS.ifNo X2.here hx rfl (hb hby at_80) rfl ((if0 _ _).trans (feq hdb).1) ?_
      show Steps p.tables e below (T2.setTop (mkF m 83 #[.val (.long q1), .second, .val (.long q2), .second, .val (.long q3), .second, .val (.long q4), .second, .val (.long q5), .second, .val (.int p6), .val (.ref b1), .val (.int (p6 &&& (15 : Int32))), .val (.long (own_b p6 (1 : Int32) q1 q5)), .second, .val (.long (own_b p6 (2 : Int32) q2 q5)), .second, .val (.long (own_b p6 (4 : Int32) q3 q5)), .second, .unset, .unset, .unset, .unset, .unset] [])) _
      refine XS.lload X2.here hx rfl (hb hby at_83) rfl ?_
      show Steps p.tables e below (T2.setTop (mkF m 85 #[.val (.long q1), .second, .val (.long q2), .second, .val (.long q3), .second, .val (.long q4), .second, .val (.long q5), .second, .val (.int p6), .val (.ref b1), .val (.int (p6 &&& (15 : Int32))), .val (.long (own_b p6 (1 : Int32) q1 q5)), .second, .val (.long (own_b p6 (2 : Int32) q2 q5)), .second, .val (.long (own_b p6 (4 : Int32) q3 q5)), .second, .unset, .unset, .unset, .unset, .unset] [(.long q4)])) _
      refine XS.lload X2.here hx rfl (hb hby at_85) rfl ?_
      show Steps p.tables e below (T2.setTop (mkF m 87 #[.val (.long q1), .second, .val (.long q2), .second, .val (.long q3), .second, .val (.long q4), .second, .val (.long q5), .second, .val (.int p6), .val (.ref b1), .val (.int (p6 &&& (15 : Int32))), .val (.long (own_b p6 (1 : Int32) q1 q5)), .second, .val (.long (own_b p6 (2 : Int32) q2 q5)), .second, .val (.long (own_b p6 (4 : Int32) q3 q5)), .second, .unset, .unset, .unset, .unset, .unset] [(.long q5), (.long q4)])) _
      refine XS.ladd X2.here hx rfl (hb hby at_87) rfl ?_
      show Steps p.tables e below (T2.setTop (mkF m 88 #[.val (.long q1), .second, .val (.long q2), .second, .val (.long q3), .second, .val (.long q4), .second, .val (.long q5), .second, .val (.int p6), .val (.ref b1), .val (.int (p6 &&& (15 : Int32))), .val (.long (own_b p6 (1 : Int32) q1 q5)), .second, .val (.long (own_b p6 (2 : Int32) q2 q5)), .second, .val (.long (own_b p6 (4 : Int32) q3 q5)), .second, .unset, .unset, .unset, .unset, .unset] [(.long (q4 + q5))])) _
      refine XS.goto X2.here hx rfl (pc0 := 88) (pc' := 93) rfl (hb hby at_88) (by decide) (by decide) ?_
      exact kt
  obtain ⟨T7, h7, X7, e7, E7, A7, D7, -, st7⟩ := newO X2 hx hZ hown (hw _ (List.mem_of_getElem? (i := 0) rfl)) (hw _ (List.mem_of_getElem? (i := 1) rfl)) (hw _ (List.mem_of_getElem? (i := 2) rfl)) rfl (g := (mkF m 95 #[.val (.long q1), .second, .val (.long q2), .second, .val (.long q3), .second, .val (.long q4), .second, .val (.long q5), .second, .val (.int p6), .val (.ref b1), .val (.int (p6 &&& (15 : Int32))), .val (.long (own_b p6 (1 : Int32) q1 q5)), .second, .val (.long (own_b p6 (2 : Int32) q2 q5)), .second, .val (.long (own_b p6 (4 : Int32) q3 q5)), .second, .val (.long (own_b p6 (8 : Int32) q4 q5)), .second, .unset, .unset, .unset] [])) rfl (hb hby at_95) (by decide) (by decide)
  obtain ⟨b7, gq7⟩ : ∃ z, z = T2.heap.size := ⟨_, rfl⟩
  rw [← gq7] at A7 D7 st7
  have g_b7 : n0 ≤ b7 := Nat.le_trans ((O2.1 ▸ O2.2.1) : n0 ≤ T2.heap.size) (Nat.le_of_eq gq7.symm)
  have sz_b7 : h0.size ≤ b7 := Nat.le_trans KK2.1 (Nat.le_of_eq gq7.symm)
  have KK7 : Keep h0 h7 [] := KK2.ext E7
  have O7 := O2.ext E7
  have F_pending_b7 : Fld Z h7 b7 "com/example/bide/bide/QueueCounts" "pending" "J" (.long (0 : Int64)) := D7 (Or.inr (hw _ (List.mem_of_getElem? (i := 10) rfl))) (ty := .long) (by decide)
  have F_due_b7 : Fld Z h7 b7 "com/example/bide/bide/QueueCounts" "due" "J" (.long (0 : Int64)) := D7 (Or.inr (hw _ (List.mem_of_getElem? (i := 12) rfl))) (ty := .long) (by decide)
  have F_leased_b7 : Fld Z h7 b7 "com/example/bide/bide/QueueCounts" "leased" "J" (.long (0 : Int64)) := D7 (Or.inr (hw _ (List.mem_of_getElem? (i := 14) rfl))) (ty := .long) (by decide)
  have F_dead_b7 : Fld Z h7 b7 "com/example/bide/bide/QueueCounts" "dead" "J" (.long (0 : Int64)) := D7 (Or.inr (hw _ (List.mem_of_getElem? (i := 16) rfl))) (ty := .long) (by decide)
  obtain ⟨_, _, ⟨T8, L8, k8, n8⟩, -, X8, ⟨Lc8, hQ8, l8, y8, z8⟩, st8⟩ := X7.specialBack hx (y := (⟨"com/example/bide/bide/QueueCounts", "<init>", "(JJJJ)V"⟩ : MethodName)) rfl hown (mvT hZ (hw _ (List.mem_of_getElem? (i := 3) rfl))) (mvT hZ (hw _ (List.mem_of_getElem? (i := 4) rfl))) (mvT hZ (hw _ (List.mem_of_getElem? (i := 5) rfl))) (by decide) (backOf (W := 1) (rm1_0 l Z a0 hw b7 (own_b p6 (1 : Int32) q1 q5) (own_b p6 (2 : Int32) q2 q5) (own_b p6 (4 : Int32) q3 q5) (own_b p6 (8 : Int32) q4 q5) h7 n0 O7 A7 F_pending_b7 F_due_b7 F_leased_b7 F_dead_b7 g_b7) hZ (hw _ (List.mem_of_getElem? (i := 5) rfl)) (hw _ (List.mem_of_getElem? (i := 2) rfl)) (by decide) (by decide)) (g := (mkF m 107 #[.val (.long q1), .second, .val (.long q2), .second, .val (.long q3), .second, .val (.long q4), .second, .val (.long q5), .second, .val (.int p6), .val (.ref b1), .val (.int (p6 &&& (15 : Int32))), .val (.long (own_b p6 (1 : Int32) q1 q5)), .second, .val (.long (own_b p6 (2 : Int32) q2 q5)), .second, .val (.long (own_b p6 (4 : Int32) q3 q5)), .second, .val (.long (own_b p6 (8 : Int32) q4 q5)), .second, .unset, .unset, .unset] [(.long (own_b p6 (8 : Int32) q4 q5)), (.long (own_b p6 (4 : Int32) q3 q5)), (.long (own_b p6 (2 : Int32) q2 q5)), (.long (own_b p6 (1 : Int32) q1 q5)), (.ref b7), (.ref b7)])) rfl (by rw [hml]; rfl) (Steps.refl _) (a := b7) (argsL := [(.long (own_b p6 (1 : Int32) q1 q5)), (.long (own_b p6 (2 : Int32) q2 q5)), (.long (own_b p6 (4 : Int32) q3 q5)), (.long (own_b p6 (8 : Int32) q4 q5))]) (rest := [(.ref b7)]) (lenOf pd_2 rfl) rfl (by show 2 * 0 + _ ≤ _; exact Nat.le_of_eq rfl) (hb hby at_107) (fun _ _ => ⟨rfl, e7, (by decide : 2 + 0 ≤ _), (by decide : 8 + 0 ≤ _)⟩)
  dsimp only [Pt.U, Pt.locs, Pt.cells, Pt.slots] at X8 l8 y8 z8 st8 hQ8
  subst l8 y8 z8
  obtain ⟨rfl, N8q, K8, f8_0, f8_1, f8_2, f8_3⟩ := hQ8
  have KK8 : Keep h0 T8.heap [] := KK7.trans K8 (allS (Or.inr sz_b7) all0)
  have O8 := O7.keep K8 (allS g_b7 all0)
  have N8 := Fr.app N2 N8q
  have nz9 : b1 ≠ b7 := (Nat.ne_of_lt (Nat.lt_of_lt_of_le (A1.keep K2).lt (Nat.le_of_eq gq7.symm)))
  obtain ⟨cq10, kq10, q10a, q10b, q10c⟩ := isOf hZ rfl (((A1.keep K2).ext E7).keep K8)
  obtain ⟨_, _, ⟨T10, L10, k10, n10⟩, -, X10, ⟨Lc10, hQ10, l10, y10, z10⟩, st10⟩ := X8.virtualBack hx (y := (⟨"com/example/bide/bide/QueueCounts", "equals", "(Ljava/lang/Object;)Z"⟩ : MethodName)) (z := (⟨"com/example/bide/bide/QueueCounts", "equals", "(Ljava/lang/Object;)Z"⟩ : MethodName)) hown (mvT hZ (hw _ (List.mem_of_getElem? (i := 17) rfl))) (mvT hZ (hw _ (List.mem_of_getElem? (i := 18) rfl))) (notFace_of_selects (args := #[]) (mvT hZ (hw _ (List.mem_of_getElem? (i := 20) rfl)))) (mvT hZ (hw _ (List.mem_of_getElem? (i := 20) rfl))) (mvT hZ (hw _ (List.mem_of_getElem? (i := 19) rfl))) (by decide) (backOf (W := 0) (rm3_2 l Z a0 hw b1 b7 q1 (own_b p6 (1 : Int32) q1 q5) q2 (own_b p6 (2 : Int32) q2 q5) T8.heap n0 O8 (A7.keep K8) ((f2_0.ext E7).keep K8 (ninS nz9 nin0)) f8_0 P4 ((f2_1.ext E7).keep K8 (ninS nz9 nin0)) f8_1 P5) hZ (hw _ (List.mem_of_getElem? (i := 21) rfl)) (hw _ (List.mem_of_getElem? (i := 2) rfl)) (by decide) (by decide)) q10a q10c (g := (mkF m 202 #[.val (.long q1), .second, .val (.long q2), .second, .val (.long q3), .second, .val (.long q4), .second, .val (.long q5), .second, .val (.int p6), .val (.ref b1), .val (.int (p6 &&& (15 : Int32))), .val (.long (own_b p6 (1 : Int32) q1 q5)), .second, .val (.long (own_b p6 (2 : Int32) q2 q5)), .second, .val (.long (own_b p6 (4 : Int32) q3 q5)), .second, .val (.long (own_b p6 (8 : Int32) q4 q5)), .second, .val (.ref b7), .val (.int (0 : Int32)), .val (.int (0 : Int32))] [(.ref b7), (.ref b1)])) rfl (by rw [hml]; rfl) (Steps.refl _) (argsL := [(.ref b7)]) (rest := []) (lenOf pd_4 rfl) rfl (by show 2 * 0 + _ ≤ _; exact Nat.le_of_eq rfl) (hb hby at_202) (fun _ _ => ⟨rfl, rfl, (by decide : 2 + 0 ≤ _), (by decide : 8 + 0 ≤ _)⟩)
  dsimp only [Pt.U, Pt.locs, Pt.cells, Pt.slots] at X10 l10 y10 z10 st10 hQ10
  subst l10 y10 z10
  obtain ⟨rfl, N10q, e10⟩ := hQ10
  have N10 := Fr.app N8 N10q
  obtain ⟨cq11, kq11, q11a, q11b, q11c⟩ := isOf hZ e10 (A7.keep K8)
  obtain ⟨_, _, ⟨T11, L11, k11, n11⟩, -, X11, ⟨Lc11, hQ11, l11, y11, z11⟩, st11⟩ := X10.virtualBack hx (y := (⟨"com/example/bide/bide/QueueCounts", "equals", "(Ljava/lang/Object;)Z"⟩ : MethodName)) (z := (⟨"com/example/bide/bide/QueueCounts", "equals", "(Ljava/lang/Object;)Z"⟩ : MethodName)) hown (mvT hZ (hw _ (List.mem_of_getElem? (i := 17) rfl))) (mvT hZ (hw _ (List.mem_of_getElem? (i := 18) rfl))) (notFace_of_selects (args := #[]) (mvT hZ (hw _ (List.mem_of_getElem? (i := 20) rfl)))) (mvT hZ (hw _ (List.mem_of_getElem? (i := 20) rfl))) (mvT hZ (hw _ (List.mem_of_getElem? (i := 19) rfl))) (by decide) (backOf (W := 0) (rm3_2 l Z a0 hw b7 b1 (own_b p6 (1 : Int32) q1 q5) q1 (own_b p6 (2 : Int32) q2 q5) q2 T8.heap n0 O8 (((A1.keep K2).ext E7).keep K8) f8_0 ((f2_0.ext E7).keep K8 (ninS nz9 nin0)) P6 f8_1 ((f2_1.ext E7).keep K8 (ninS nz9 nin0)) P7) hZ (hw _ (List.mem_of_getElem? (i := 21) rfl)) (hw _ (List.mem_of_getElem? (i := 2) rfl)) (by decide) (by decide)) q11a q11c (g := (mkF m 214 #[.val (.long q1), .second, .val (.long q2), .second, .val (.long q3), .second, .val (.long q4), .second, .val (.long q5), .second, .val (.int p6), .val (.ref b1), .val (.int (p6 &&& (15 : Int32))), .val (.long (own_b p6 (1 : Int32) q1 q5)), .second, .val (.long (own_b p6 (2 : Int32) q2 q5)), .second, .val (.long (own_b p6 (4 : Int32) q3 q5)), .second, .val (.long (own_b p6 (8 : Int32) q4 q5)), .second, .val (.ref b7), .val (.int (0 : Int32)), .val (.int (0 : Int32))] [(.ref b1), (.ref b7)])) rfl (by rw [hml]; rfl) (Steps.refl _) (argsL := [(.ref b1)]) (rest := []) (lenOf pd_4 rfl) rfl (by show 2 * 0 + _ ≤ _; exact Nat.le_of_eq rfl) (hb hby at_214) (fun _ _ => ⟨rfl, e10, (by decide : 2 + 0 ≤ _), (by decide : 8 + 0 ≤ _)⟩)
  dsimp only [Pt.U, Pt.locs, Pt.cells, Pt.slots] at X11 l11 y11 z11 st11 hQ11
  subst l11 y11 z11
  obtain ⟨rfl, N11q, e11⟩ := hQ11
  have N11 := Fr.app N10 N11q
  obtain ⟨fs, hr, hrun, hended, hW, hsame⟩ := X11.leave (v := some (.int (1 : Int32))) (fun h => by rw [Bd.returns] at h; cases h)
  refine ⟨_, _, pre0 _ ?_, hrun, hended, _, _, rfl, ?_, ⟨_, rfl⟩, hW, hsame.mono (by decide) (by decide)⟩
  · show Steps p.tables e below (s₁.setTop (mkF m 0 #[.val (.long q1), .second, .val (.long q2), .second, .val (.long q3), .second, .val (.long q4), .second, .val (.long q5), .second, .val (.int p6), .unset, .unset, .unset, .unset, .unset, .unset, .unset, .unset, .unset, .unset, .unset, .unset, .unset] [])) _
    refine st1 _ ?_
    show Steps p.tables e below (T1.setTop (mkF m 3 #[.val (.long q1), .second, .val (.long q2), .second, .val (.long q3), .second, .val (.long q4), .second, .val (.long q5), .second, .val (.int p6), .unset, .unset, .unset, .unset, .unset, .unset, .unset, .unset, .unset, .unset, .unset, .unset, .unset] [(.ref b1)])) _
    refine XS.dup X1.here hx rfl (hb hby at_3) rfl rfl ?_
    show Steps p.tables e below (T1.setTop (mkF m 4 #[.val (.long q1), .second, .val (.long q2), .second, .val (.long q3), .second, .val (.long q4), .second, .val (.long q5), .second, .val (.int p6), .unset, .unset, .unset, .unset, .unset, .unset, .unset, .unset, .unset, .unset, .unset, .unset, .unset] [(.ref b1), (.ref b1)])) _
    refine XS.lloadN X1.here hx rfl (hb hby at_4) rfl ?_
    show Steps p.tables e below (T1.setTop (mkF m 5 #[.val (.long q1), .second, .val (.long q2), .second, .val (.long q3), .second, .val (.long q4), .second, .val (.long q5), .second, .val (.int p6), .unset, .unset, .unset, .unset, .unset, .unset, .unset, .unset, .unset, .unset, .unset, .unset, .unset] [(.long q1), (.ref b1), (.ref b1)])) _
    refine XS.lloadN X1.here hx rfl (hb hby at_5) rfl ?_
    show Steps p.tables e below (T1.setTop (mkF m 6 #[.val (.long q1), .second, .val (.long q2), .second, .val (.long q3), .second, .val (.long q4), .second, .val (.long q5), .second, .val (.int p6), .unset, .unset, .unset, .unset, .unset, .unset, .unset, .unset, .unset, .unset, .unset, .unset, .unset] [(.long q2), (.long q1), (.ref b1), (.ref b1)])) _
    refine XS.lload X1.here hx rfl (hb hby at_6) rfl ?_
    show Steps p.tables e below (T1.setTop (mkF m 8 #[.val (.long q1), .second, .val (.long q2), .second, .val (.long q3), .second, .val (.long q4), .second, .val (.long q5), .second, .val (.int p6), .unset, .unset, .unset, .unset, .unset, .unset, .unset, .unset, .unset, .unset, .unset, .unset, .unset] [(.long q3), (.long q2), (.long q1), (.ref b1), (.ref b1)])) _
    refine XS.lload X1.here hx rfl (hb hby at_8) rfl ?_
    show Steps p.tables e below (T1.setTop (mkF m 10 #[.val (.long q1), .second, .val (.long q2), .second, .val (.long q3), .second, .val (.long q4), .second, .val (.long q5), .second, .val (.int p6), .unset, .unset, .unset, .unset, .unset, .unset, .unset, .unset, .unset, .unset, .unset, .unset, .unset] [(.long q4), (.long q3), (.long q2), (.long q1), (.ref b1), (.ref b1)])) _
    refine st2.trans ?_
    show Steps p.tables e below (T2.setTop (mkF m 13 #[.val (.long q1), .second, .val (.long q2), .second, .val (.long q3), .second, .val (.long q4), .second, .val (.long q5), .second, .val (.int p6), .unset, .unset, .unset, .unset, .unset, .unset, .unset, .unset, .unset, .unset, .unset, .unset, .unset] [(.ref b1)])) _
    refine XS.astore X2.here hx rfl (hb hby at_13) rfl rfl (l' := #[.val (.long q1), .second, .val (.long q2), .second, .val (.long q3), .second, .val (.long q4), .second, .val (.long q5), .second, .val (.int p6), .val (.ref b1), .unset, .unset, .unset, .unset, .unset, .unset, .unset, .unset, .unset, .unset, .unset, .unset]) rfl ?_
    show Steps p.tables e below (T2.setTop (mkF m 15 #[.val (.long q1), .second, .val (.long q2), .second, .val (.long q3), .second, .val (.long q4), .second, .val (.long q5), .second, .val (.int p6), .val (.ref b1), .unset, .unset, .unset, .unset, .unset, .unset, .unset, .unset, .unset, .unset, .unset, .unset] [])) _
    refine XS.iload X2.here hx rfl (hb hby at_15) rfl ?_
    show Steps p.tables e below (T2.setTop (mkF m 17 #[.val (.long q1), .second, .val (.long q2), .second, .val (.long q3), .second, .val (.long q4), .second, .val (.long q5), .second, .val (.int p6), .val (.ref b1), .unset, .unset, .unset, .unset, .unset, .unset, .unset, .unset, .unset, .unset, .unset, .unset] [(.int p6)])) _
    refine XS.bipush X2.here hx rfl (hb hby at_17) ?_
    show Steps p.tables e below (T2.setTop (mkF m 19 #[.val (.long q1), .second, .val (.long q2), .second, .val (.long q3), .second, .val (.long q4), .second, .val (.long q5), .second, .val (.int p6), .val (.ref b1), .unset, .unset, .unset, .unset, .unset, .unset, .unset, .unset, .unset, .unset, .unset, .unset] [(.int (15 : Int32)), (.int p6)])) _
    refine XS.iand X2.here hx rfl (hb hby at_19) rfl ?_
    show Steps p.tables e below (T2.setTop (mkF m 20 #[.val (.long q1), .second, .val (.long q2), .second, .val (.long q3), .second, .val (.long q4), .second, .val (.long q5), .second, .val (.int p6), .val (.ref b1), .unset, .unset, .unset, .unset, .unset, .unset, .unset, .unset, .unset, .unset, .unset, .unset] [(.int (p6 &&& (15 : Int32)))])) _
    refine XS.istore X2.here hx rfl (hb hby at_20) rfl (l' := #[.val (.long q1), .second, .val (.long q2), .second, .val (.long q3), .second, .val (.long q4), .second, .val (.long q5), .second, .val (.int p6), .val (.ref b1), .val (.int (p6 &&& (15 : Int32))), .unset, .unset, .unset, .unset, .unset, .unset, .unset, .unset, .unset, .unset, .unset]) rfl ?_
    show Steps p.tables e below (T2.setTop (mkF m 22 #[.val (.long q1), .second, .val (.long q2), .second, .val (.long q3), .second, .val (.long q4), .second, .val (.long q5), .second, .val (.int p6), .val (.ref b1), .val (.int (p6 &&& (15 : Int32))), .unset, .unset, .unset, .unset, .unset, .unset, .unset, .unset, .unset, .unset, .unset] [])) _
    refine XS.iload X2.here hx rfl (hb hby at_22) rfl ?_
    show Steps p.tables e below (T2.setTop (mkF m 24 #[.val (.long q1), .second, .val (.long q2), .second, .val (.long q3), .second, .val (.long q4), .second, .val (.long q5), .second, .val (.int p6), .val (.ref b1), .val (.int (p6 &&& (15 : Int32))), .unset, .unset, .unset, .unset, .unset, .unset, .unset, .unset, .unset, .unset, .unset] [(.int (p6 &&& (15 : Int32)))])) _
    refine XS.iconst X2.here hx rfl (hb hby at_24) ?_
    show Steps p.tables e below (T2.setTop (mkF m 25 #[.val (.long q1), .second, .val (.long q2), .second, .val (.long q3), .second, .val (.long q4), .second, .val (.long q5), .second, .val (.int p6), .val (.ref b1), .val (.int (p6 &&& (15 : Int32))), .unset, .unset, .unset, .unset, .unset, .unset, .unset, .unset, .unset, .unset, .unset] [(.int (1 : Int32)), (.int (p6 &&& (15 : Int32)))])) _
    refine XS.iand X2.here hx rfl (hb hby at_25) rfl ?_
    show Steps p.tables e below (T2.setTop (mkF m 26 #[.val (.long q1), .second, .val (.long q2), .second, .val (.long q3), .second, .val (.long q4), .second, .val (.long q5), .second, .val (.int p6), .val (.ref b1), .val (.int (p6 &&& (15 : Int32))), .unset, .unset, .unset, .unset, .unset, .unset, .unset, .unset, .unset, .unset, .unset] [(.int ((p6 &&& (15 : Int32)) &&& (1 : Int32)))])) _
    refine dm3 _ ?_
    show Steps p.tables e below (T2.setTop (mkF m 37 #[.val (.long q1), .second, .val (.long q2), .second, .val (.long q3), .second, .val (.long q4), .second, .val (.long q5), .second, .val (.int p6), .val (.ref b1), .val (.int (p6 &&& (15 : Int32))), .unset, .unset, .unset, .unset, .unset, .unset, .unset, .unset, .unset, .unset, .unset] [(.long (own_b p6 (1 : Int32) q1 q5))])) _
    refine XS.lstore X2.here hx rfl (hb hby at_37) rfl (l' := #[.val (.long q1), .second, .val (.long q2), .second, .val (.long q3), .second, .val (.long q4), .second, .val (.long q5), .second, .val (.int p6), .val (.ref b1), .val (.int (p6 &&& (15 : Int32))), .val (.long (own_b p6 (1 : Int32) q1 q5)), .second, .unset, .unset, .unset, .unset, .unset, .unset, .unset, .unset, .unset]) rfl ?_
    show Steps p.tables e below (T2.setTop (mkF m 39 #[.val (.long q1), .second, .val (.long q2), .second, .val (.long q3), .second, .val (.long q4), .second, .val (.long q5), .second, .val (.int p6), .val (.ref b1), .val (.int (p6 &&& (15 : Int32))), .val (.long (own_b p6 (1 : Int32) q1 q5)), .second, .unset, .unset, .unset, .unset, .unset, .unset, .unset, .unset, .unset] [])) _
    refine XS.iload X2.here hx rfl (hb hby at_39) rfl ?_
    show Steps p.tables e below (T2.setTop (mkF m 41 #[.val (.long q1), .second, .val (.long q2), .second, .val (.long q3), .second, .val (.long q4), .second, .val (.long q5), .second, .val (.int p6), .val (.ref b1), .val (.int (p6 &&& (15 : Int32))), .val (.long (own_b p6 (1 : Int32) q1 q5)), .second, .unset, .unset, .unset, .unset, .unset, .unset, .unset, .unset, .unset] [(.int (p6 &&& (15 : Int32)))])) _
    refine XS.iconst X2.here hx rfl (hb hby at_41) ?_
    show Steps p.tables e below (T2.setTop (mkF m 42 #[.val (.long q1), .second, .val (.long q2), .second, .val (.long q3), .second, .val (.long q4), .second, .val (.long q5), .second, .val (.int p6), .val (.ref b1), .val (.int (p6 &&& (15 : Int32))), .val (.long (own_b p6 (1 : Int32) q1 q5)), .second, .unset, .unset, .unset, .unset, .unset, .unset, .unset, .unset, .unset] [(.int (2 : Int32)), (.int (p6 &&& (15 : Int32)))])) _
    refine XS.iand X2.here hx rfl (hb hby at_42) rfl ?_
    show Steps p.tables e below (T2.setTop (mkF m 43 #[.val (.long q1), .second, .val (.long q2), .second, .val (.long q3), .second, .val (.long q4), .second, .val (.long q5), .second, .val (.int p6), .val (.ref b1), .val (.int (p6 &&& (15 : Int32))), .val (.long (own_b p6 (1 : Int32) q1 q5)), .second, .unset, .unset, .unset, .unset, .unset, .unset, .unset, .unset, .unset] [(.int ((p6 &&& (15 : Int32)) &&& (2 : Int32)))])) _
    refine dm4 _ ?_
    show Steps p.tables e below (T2.setTop (mkF m 54 #[.val (.long q1), .second, .val (.long q2), .second, .val (.long q3), .second, .val (.long q4), .second, .val (.long q5), .second, .val (.int p6), .val (.ref b1), .val (.int (p6 &&& (15 : Int32))), .val (.long (own_b p6 (1 : Int32) q1 q5)), .second, .unset, .unset, .unset, .unset, .unset, .unset, .unset, .unset, .unset] [(.long (own_b p6 (2 : Int32) q2 q5))])) _
    refine XS.lstore X2.here hx rfl (hb hby at_54) rfl (l' := #[.val (.long q1), .second, .val (.long q2), .second, .val (.long q3), .second, .val (.long q4), .second, .val (.long q5), .second, .val (.int p6), .val (.ref b1), .val (.int (p6 &&& (15 : Int32))), .val (.long (own_b p6 (1 : Int32) q1 q5)), .second, .val (.long (own_b p6 (2 : Int32) q2 q5)), .second, .unset, .unset, .unset, .unset, .unset, .unset, .unset]) rfl ?_
    show Steps p.tables e below (T2.setTop (mkF m 56 #[.val (.long q1), .second, .val (.long q2), .second, .val (.long q3), .second, .val (.long q4), .second, .val (.long q5), .second, .val (.int p6), .val (.ref b1), .val (.int (p6 &&& (15 : Int32))), .val (.long (own_b p6 (1 : Int32) q1 q5)), .second, .val (.long (own_b p6 (2 : Int32) q2 q5)), .second, .unset, .unset, .unset, .unset, .unset, .unset, .unset] [])) _
    refine XS.iload X2.here hx rfl (hb hby at_56) rfl ?_
    show Steps p.tables e below (T2.setTop (mkF m 58 #[.val (.long q1), .second, .val (.long q2), .second, .val (.long q3), .second, .val (.long q4), .second, .val (.long q5), .second, .val (.int p6), .val (.ref b1), .val (.int (p6 &&& (15 : Int32))), .val (.long (own_b p6 (1 : Int32) q1 q5)), .second, .val (.long (own_b p6 (2 : Int32) q2 q5)), .second, .unset, .unset, .unset, .unset, .unset, .unset, .unset] [(.int (p6 &&& (15 : Int32)))])) _
    refine XS.iconst X2.here hx rfl (hb hby at_58) ?_
    show Steps p.tables e below (T2.setTop (mkF m 59 #[.val (.long q1), .second, .val (.long q2), .second, .val (.long q3), .second, .val (.long q4), .second, .val (.long q5), .second, .val (.int p6), .val (.ref b1), .val (.int (p6 &&& (15 : Int32))), .val (.long (own_b p6 (1 : Int32) q1 q5)), .second, .val (.long (own_b p6 (2 : Int32) q2 q5)), .second, .unset, .unset, .unset, .unset, .unset, .unset, .unset] [(.int (4 : Int32)), (.int (p6 &&& (15 : Int32)))])) _
    refine XS.iand X2.here hx rfl (hb hby at_59) rfl ?_
    show Steps p.tables e below (T2.setTop (mkF m 60 #[.val (.long q1), .second, .val (.long q2), .second, .val (.long q3), .second, .val (.long q4), .second, .val (.long q5), .second, .val (.int p6), .val (.ref b1), .val (.int (p6 &&& (15 : Int32))), .val (.long (own_b p6 (1 : Int32) q1 q5)), .second, .val (.long (own_b p6 (2 : Int32) q2 q5)), .second, .unset, .unset, .unset, .unset, .unset, .unset, .unset] [(.int ((p6 &&& (15 : Int32)) &&& (4 : Int32)))])) _
    refine dm5 _ ?_
    show Steps p.tables e below (T2.setTop (mkF m 73 #[.val (.long q1), .second, .val (.long q2), .second, .val (.long q3), .second, .val (.long q4), .second, .val (.long q5), .second, .val (.int p6), .val (.ref b1), .val (.int (p6 &&& (15 : Int32))), .val (.long (own_b p6 (1 : Int32) q1 q5)), .second, .val (.long (own_b p6 (2 : Int32) q2 q5)), .second, .unset, .unset, .unset, .unset, .unset, .unset, .unset] [(.long (own_b p6 (4 : Int32) q3 q5))])) _
    refine XS.lstore X2.here hx rfl (hb hby at_73) rfl (l' := #[.val (.long q1), .second, .val (.long q2), .second, .val (.long q3), .second, .val (.long q4), .second, .val (.long q5), .second, .val (.int p6), .val (.ref b1), .val (.int (p6 &&& (15 : Int32))), .val (.long (own_b p6 (1 : Int32) q1 q5)), .second, .val (.long (own_b p6 (2 : Int32) q2 q5)), .second, .val (.long (own_b p6 (4 : Int32) q3 q5)), .second, .unset, .unset, .unset, .unset, .unset]) rfl ?_
    show Steps p.tables e below (T2.setTop (mkF m 75 #[.val (.long q1), .second, .val (.long q2), .second, .val (.long q3), .second, .val (.long q4), .second, .val (.long q5), .second, .val (.int p6), .val (.ref b1), .val (.int (p6 &&& (15 : Int32))), .val (.long (own_b p6 (1 : Int32) q1 q5)), .second, .val (.long (own_b p6 (2 : Int32) q2 q5)), .second, .val (.long (own_b p6 (4 : Int32) q3 q5)), .second, .unset, .unset, .unset, .unset, .unset] [])) _
    refine XS.iload X2.here hx rfl (hb hby at_75) rfl ?_
    show Steps p.tables e below (T2.setTop (mkF m 77 #[.val (.long q1), .second, .val (.long q2), .second, .val (.long q3), .second, .val (.long q4), .second, .val (.long q5), .second, .val (.int p6), .val (.ref b1), .val (.int (p6 &&& (15 : Int32))), .val (.long (own_b p6 (1 : Int32) q1 q5)), .second, .val (.long (own_b p6 (2 : Int32) q2 q5)), .second, .val (.long (own_b p6 (4 : Int32) q3 q5)), .second, .unset, .unset, .unset, .unset, .unset] [(.int (p6 &&& (15 : Int32)))])) _
    refine XS.bipush X2.here hx rfl (hb hby at_77) ?_
    show Steps p.tables e below (T2.setTop (mkF m 79 #[.val (.long q1), .second, .val (.long q2), .second, .val (.long q3), .second, .val (.long q4), .second, .val (.long q5), .second, .val (.int p6), .val (.ref b1), .val (.int (p6 &&& (15 : Int32))), .val (.long (own_b p6 (1 : Int32) q1 q5)), .second, .val (.long (own_b p6 (2 : Int32) q2 q5)), .second, .val (.long (own_b p6 (4 : Int32) q3 q5)), .second, .unset, .unset, .unset, .unset, .unset] [(.int (8 : Int32)), (.int (p6 &&& (15 : Int32)))])) _
    refine XS.iand X2.here hx rfl (hb hby at_79) rfl ?_
    show Steps p.tables e below (T2.setTop (mkF m 80 #[.val (.long q1), .second, .val (.long q2), .second, .val (.long q3), .second, .val (.long q4), .second, .val (.long q5), .second, .val (.int p6), .val (.ref b1), .val (.int (p6 &&& (15 : Int32))), .val (.long (own_b p6 (1 : Int32) q1 q5)), .second, .val (.long (own_b p6 (2 : Int32) q2 q5)), .second, .val (.long (own_b p6 (4 : Int32) q3 q5)), .second, .unset, .unset, .unset, .unset, .unset] [(.int ((p6 &&& (15 : Int32)) &&& (8 : Int32)))])) _
    refine dm6 _ ?_
    show Steps p.tables e below (T2.setTop (mkF m 93 #[.val (.long q1), .second, .val (.long q2), .second, .val (.long q3), .second, .val (.long q4), .second, .val (.long q5), .second, .val (.int p6), .val (.ref b1), .val (.int (p6 &&& (15 : Int32))), .val (.long (own_b p6 (1 : Int32) q1 q5)), .second, .val (.long (own_b p6 (2 : Int32) q2 q5)), .second, .val (.long (own_b p6 (4 : Int32) q3 q5)), .second, .unset, .unset, .unset, .unset, .unset] [(.long (own_b p6 (8 : Int32) q4 q5))])) _
    refine XS.lstore X2.here hx rfl (hb hby at_93) rfl (l' := #[.val (.long q1), .second, .val (.long q2), .second, .val (.long q3), .second, .val (.long q4), .second, .val (.long q5), .second, .val (.int p6), .val (.ref b1), .val (.int (p6 &&& (15 : Int32))), .val (.long (own_b p6 (1 : Int32) q1 q5)), .second, .val (.long (own_b p6 (2 : Int32) q2 q5)), .second, .val (.long (own_b p6 (4 : Int32) q3 q5)), .second, .val (.long (own_b p6 (8 : Int32) q4 q5)), .second, .unset, .unset, .unset]) rfl ?_
    show Steps p.tables e below (T2.setTop (mkF m 95 #[.val (.long q1), .second, .val (.long q2), .second, .val (.long q3), .second, .val (.long q4), .second, .val (.long q5), .second, .val (.int p6), .val (.ref b1), .val (.int (p6 &&& (15 : Int32))), .val (.long (own_b p6 (1 : Int32) q1 q5)), .second, .val (.long (own_b p6 (2 : Int32) q2 q5)), .second, .val (.long (own_b p6 (4 : Int32) q3 q5)), .second, .val (.long (own_b p6 (8 : Int32) q4 q5)), .second, .unset, .unset, .unset] [])) _
    refine st7 _ ?_
    show Steps p.tables e below (T7.setTop (mkF m 98 #[.val (.long q1), .second, .val (.long q2), .second, .val (.long q3), .second, .val (.long q4), .second, .val (.long q5), .second, .val (.int p6), .val (.ref b1), .val (.int (p6 &&& (15 : Int32))), .val (.long (own_b p6 (1 : Int32) q1 q5)), .second, .val (.long (own_b p6 (2 : Int32) q2 q5)), .second, .val (.long (own_b p6 (4 : Int32) q3 q5)), .second, .val (.long (own_b p6 (8 : Int32) q4 q5)), .second, .unset, .unset, .unset] [(.ref b7)])) _
    refine XS.dup X7.here hx rfl (hb hby at_98) rfl rfl ?_
    show Steps p.tables e below (T7.setTop (mkF m 99 #[.val (.long q1), .second, .val (.long q2), .second, .val (.long q3), .second, .val (.long q4), .second, .val (.long q5), .second, .val (.int p6), .val (.ref b1), .val (.int (p6 &&& (15 : Int32))), .val (.long (own_b p6 (1 : Int32) q1 q5)), .second, .val (.long (own_b p6 (2 : Int32) q2 q5)), .second, .val (.long (own_b p6 (4 : Int32) q3 q5)), .second, .val (.long (own_b p6 (8 : Int32) q4 q5)), .second, .unset, .unset, .unset] [(.ref b7), (.ref b7)])) _
    refine XS.lload X7.here hx rfl (hb hby at_99) rfl ?_
    show Steps p.tables e below (T7.setTop (mkF m 101 #[.val (.long q1), .second, .val (.long q2), .second, .val (.long q3), .second, .val (.long q4), .second, .val (.long q5), .second, .val (.int p6), .val (.ref b1), .val (.int (p6 &&& (15 : Int32))), .val (.long (own_b p6 (1 : Int32) q1 q5)), .second, .val (.long (own_b p6 (2 : Int32) q2 q5)), .second, .val (.long (own_b p6 (4 : Int32) q3 q5)), .second, .val (.long (own_b p6 (8 : Int32) q4 q5)), .second, .unset, .unset, .unset] [(.long (own_b p6 (1 : Int32) q1 q5)), (.ref b7), (.ref b7)])) _
    refine XS.lload X7.here hx rfl (hb hby at_101) rfl ?_
    show Steps p.tables e below (T7.setTop (mkF m 103 #[.val (.long q1), .second, .val (.long q2), .second, .val (.long q3), .second, .val (.long q4), .second, .val (.long q5), .second, .val (.int p6), .val (.ref b1), .val (.int (p6 &&& (15 : Int32))), .val (.long (own_b p6 (1 : Int32) q1 q5)), .second, .val (.long (own_b p6 (2 : Int32) q2 q5)), .second, .val (.long (own_b p6 (4 : Int32) q3 q5)), .second, .val (.long (own_b p6 (8 : Int32) q4 q5)), .second, .unset, .unset, .unset] [(.long (own_b p6 (2 : Int32) q2 q5)), (.long (own_b p6 (1 : Int32) q1 q5)), (.ref b7), (.ref b7)])) _
    refine XS.lload X7.here hx rfl (hb hby at_103) rfl ?_
    show Steps p.tables e below (T7.setTop (mkF m 105 #[.val (.long q1), .second, .val (.long q2), .second, .val (.long q3), .second, .val (.long q4), .second, .val (.long q5), .second, .val (.int p6), .val (.ref b1), .val (.int (p6 &&& (15 : Int32))), .val (.long (own_b p6 (1 : Int32) q1 q5)), .second, .val (.long (own_b p6 (2 : Int32) q2 q5)), .second, .val (.long (own_b p6 (4 : Int32) q3 q5)), .second, .val (.long (own_b p6 (8 : Int32) q4 q5)), .second, .unset, .unset, .unset] [(.long (own_b p6 (4 : Int32) q3 q5)), (.long (own_b p6 (2 : Int32) q2 q5)), (.long (own_b p6 (1 : Int32) q1 q5)), (.ref b7), (.ref b7)])) _
    refine XS.lload X7.here hx rfl (hb hby at_105) rfl ?_
    show Steps p.tables e below (T7.setTop (mkF m 107 #[.val (.long q1), .second, .val (.long q2), .second, .val (.long q3), .second, .val (.long q4), .second, .val (.long q5), .second, .val (.int p6), .val (.ref b1), .val (.int (p6 &&& (15 : Int32))), .val (.long (own_b p6 (1 : Int32) q1 q5)), .second, .val (.long (own_b p6 (2 : Int32) q2 q5)), .second, .val (.long (own_b p6 (4 : Int32) q3 q5)), .second, .val (.long (own_b p6 (8 : Int32) q4 q5)), .second, .unset, .unset, .unset] [(.long (own_b p6 (8 : Int32) q4 q5)), (.long (own_b p6 (4 : Int32) q3 q5)), (.long (own_b p6 (2 : Int32) q2 q5)), (.long (own_b p6 (1 : Int32) q1 q5)), (.ref b7), (.ref b7)])) _
    refine st8.trans ?_
    show Steps p.tables e below (T8.setTop (mkF m 110 #[.val (.long q1), .second, .val (.long q2), .second, .val (.long q3), .second, .val (.long q4), .second, .val (.long q5), .second, .val (.int p6), .val (.ref b1), .val (.int (p6 &&& (15 : Int32))), .val (.long (own_b p6 (1 : Int32) q1 q5)), .second, .val (.long (own_b p6 (2 : Int32) q2 q5)), .second, .val (.long (own_b p6 (4 : Int32) q3 q5)), .second, .val (.long (own_b p6 (8 : Int32) q4 q5)), .second, .unset, .unset, .unset] [(.ref b7)])) _
    refine XS.astore X8.here hx rfl (hb hby at_110) rfl rfl (l' := #[.val (.long q1), .second, .val (.long q2), .second, .val (.long q3), .second, .val (.long q4), .second, .val (.long q5), .second, .val (.int p6), .val (.ref b1), .val (.int (p6 &&& (15 : Int32))), .val (.long (own_b p6 (1 : Int32) q1 q5)), .second, .val (.long (own_b p6 (2 : Int32) q2 q5)), .second, .val (.long (own_b p6 (4 : Int32) q3 q5)), .second, .val (.long (own_b p6 (8 : Int32) q4 q5)), .second, .val (.ref b7), .unset, .unset]) rfl ?_
    show Steps p.tables e below (T8.setTop (mkF m 112 #[.val (.long q1), .second, .val (.long q2), .second, .val (.long q3), .second, .val (.long q4), .second, .val (.long q5), .second, .val (.int p6), .val (.ref b1), .val (.int (p6 &&& (15 : Int32))), .val (.long (own_b p6 (1 : Int32) q1 q5)), .second, .val (.long (own_b p6 (2 : Int32) q2 q5)), .second, .val (.long (own_b p6 (4 : Int32) q3 q5)), .second, .val (.long (own_b p6 (8 : Int32) q4 q5)), .second, .val (.ref b7), .unset, .unset] [])) _
    refine XS.iload X8.here hx rfl (hb hby at_112) rfl ?_
    show Steps p.tables e below (T8.setTop (mkF m 114 #[.val (.long q1), .second, .val (.long q2), .second, .val (.long q3), .second, .val (.long q4), .second, .val (.long q5), .second, .val (.int p6), .val (.ref b1), .val (.int (p6 &&& (15 : Int32))), .val (.long (own_b p6 (1 : Int32) q1 q5)), .second, .val (.long (own_b p6 (2 : Int32) q2 q5)), .second, .val (.long (own_b p6 (4 : Int32) q3 q5)), .second, .val (.long (own_b p6 (8 : Int32) q4 q5)), .second, .val (.ref b7), .unset, .unset] [(.int p6)])) _
    refine XS.iconst X8.here hx rfl (hb hby at_114) ?_
    show Steps p.tables e below (T8.setTop (mkF m 115 #[.val (.long q1), .second, .val (.long q2), .second, .val (.long q3), .second, .val (.long q4), .second, .val (.long q5), .second, .val (.int p6), .val (.ref b1), .val (.int (p6 &&& (15 : Int32))), .val (.long (own_b p6 (1 : Int32) q1 q5)), .second, .val (.long (own_b p6 (2 : Int32) q2 q5)), .second, .val (.long (own_b p6 (4 : Int32) q3 q5)), .second, .val (.long (own_b p6 (8 : Int32) q4 q5)), .second, .val (.ref b7), .unset, .unset] [(.int (4 : Int32)), (.int p6)])) _
    refine XS.iushr X8.here hx rfl (hb hby at_115) rfl ?_
    show Steps p.tables e below (T8.setTop (mkF m 116 #[.val (.long q1), .second, .val (.long q2), .second, .val (.long q3), .second, .val (.long q4), .second, .val (.long q5), .second, .val (.int p6), .val (.ref b1), .val (.int (p6 &&& (15 : Int32))), .val (.long (own_b p6 (1 : Int32) q1 q5)), .second, .val (.long (own_b p6 (2 : Int32) q2 q5)), .second, .val (.long (own_b p6 (4 : Int32) q3 q5)), .second, .val (.long (own_b p6 (8 : Int32) q4 q5)), .second, .val (.ref b7), .unset, .unset] [(.int ((p6.toUInt32 >>> ((4 : Int32) &&& 31).toUInt32).toInt32))])) _
    refine XS.iconst X8.here hx rfl (hb hby at_116) ?_
    show Steps p.tables e below (T8.setTop (mkF m 117 #[.val (.long q1), .second, .val (.long q2), .second, .val (.long q3), .second, .val (.long q4), .second, .val (.long q5), .second, .val (.int p6), .val (.ref b1), .val (.int (p6 &&& (15 : Int32))), .val (.long (own_b p6 (1 : Int32) q1 q5)), .second, .val (.long (own_b p6 (2 : Int32) q2 q5)), .second, .val (.long (own_b p6 (4 : Int32) q3 q5)), .second, .val (.long (own_b p6 (8 : Int32) q4 q5)), .second, .val (.ref b7), .unset, .unset] [(.int (3 : Int32)), (.int ((p6.toUInt32 >>> ((4 : Int32) &&& 31).toUInt32).toInt32))])) _
    refine XS.iand X8.here hx rfl (hb hby at_117) rfl ?_
    show Steps p.tables e below (T8.setTop (mkF m 118 #[.val (.long q1), .second, .val (.long q2), .second, .val (.long q3), .second, .val (.long q4), .second, .val (.long q5), .second, .val (.int p6), .val (.ref b1), .val (.int (p6 &&& (15 : Int32))), .val (.long (own_b p6 (1 : Int32) q1 q5)), .second, .val (.long (own_b p6 (2 : Int32) q2 q5)), .second, .val (.long (own_b p6 (4 : Int32) q3 q5)), .second, .val (.long (own_b p6 (8 : Int32) q4 q5)), .second, .val (.ref b7), .unset, .unset] [(.int (((p6.toUInt32 >>> ((4 : Int32) &&& 31).toUInt32).toInt32) &&& (3 : Int32)))])) _
    rw [P1]
    show Steps p.tables e below (T8.setTop (mkF m 118 #[.val (.long q1), .second, .val (.long q2), .second, .val (.long q3), .second, .val (.long q4), .second, .val (.long q5), .second, .val (.int p6), .val (.ref b1), .val (.int (p6 &&& (15 : Int32))), .val (.long (own_b p6 (1 : Int32) q1 q5)), .second, .val (.long (own_b p6 (2 : Int32) q2 q5)), .second, .val (.long (own_b p6 (4 : Int32) q3 q5)), .second, .val (.long (own_b p6 (8 : Int32) q4 q5)), .second, .val (.ref b7), .unset, .unset] [(.int (0 : Int32))])) _
    refine XS.istore X8.here hx rfl (hb hby at_118) rfl (l' := #[.val (.long q1), .second, .val (.long q2), .second, .val (.long q3), .second, .val (.long q4), .second, .val (.long q5), .second, .val (.int p6), .val (.ref b1), .val (.int (p6 &&& (15 : Int32))), .val (.long (own_b p6 (1 : Int32) q1 q5)), .second, .val (.long (own_b p6 (2 : Int32) q2 q5)), .second, .val (.long (own_b p6 (4 : Int32) q3 q5)), .second, .val (.long (own_b p6 (8 : Int32) q4 q5)), .second, .val (.ref b7), .val (.int (0 : Int32)), .unset]) rfl ?_
    show Steps p.tables e below (T8.setTop (mkF m 120 #[.val (.long q1), .second, .val (.long q2), .second, .val (.long q3), .second, .val (.long q4), .second, .val (.long q5), .second, .val (.int p6), .val (.ref b1), .val (.int (p6 &&& (15 : Int32))), .val (.long (own_b p6 (1 : Int32) q1 q5)), .second, .val (.long (own_b p6 (2 : Int32) q2 q5)), .second, .val (.long (own_b p6 (4 : Int32) q3 q5)), .second, .val (.long (own_b p6 (8 : Int32) q4 q5)), .second, .val (.ref b7), .val (.int (0 : Int32)), .unset] [])) _
    refine XS.iload X8.here hx rfl (hb hby at_120) rfl ?_
    show Steps p.tables e below (T8.setTop (mkF m 122 #[.val (.long q1), .second, .val (.long q2), .second, .val (.long q3), .second, .val (.long q4), .second, .val (.long q5), .second, .val (.int p6), .val (.ref b1), .val (.int (p6 &&& (15 : Int32))), .val (.long (own_b p6 (1 : Int32) q1 q5)), .second, .val (.long (own_b p6 (2 : Int32) q2 q5)), .second, .val (.long (own_b p6 (4 : Int32) q3 q5)), .second, .val (.long (own_b p6 (8 : Int32) q4 q5)), .second, .val (.ref b7), .val (.int (0 : Int32)), .unset] [(.int (0 : Int32))])) _
    refine XS.iconst X8.here hx rfl (hb hby at_122) ?_
    show Steps p.tables e below (T8.setTop (mkF m 123 #[.val (.long q1), .second, .val (.long q2), .second, .val (.long q3), .second, .val (.long q4), .second, .val (.long q5), .second, .val (.int p6), .val (.ref b1), .val (.int (p6 &&& (15 : Int32))), .val (.long (own_b p6 (1 : Int32) q1 q5)), .second, .val (.long (own_b p6 (2 : Int32) q2 q5)), .second, .val (.long (own_b p6 (4 : Int32) q3 q5)), .second, .val (.long (own_b p6 (8 : Int32) q4 q5)), .second, .val (.ref b7), .val (.int (0 : Int32)), .unset] [(.int (1 : Int32)), (.int (0 : Int32))])) _
    refine XS.icmpYes X8.here hx rfl (pc0 := 123) (pc' := 141) rfl (hb hby at_123) rfl (by decide) (by decide) (by decide) ?_
    show Steps p.tables e below (T8.setTop (mkF m 141 #[.val (.long q1), .second, .val (.long q2), .second, .val (.long q3), .second, .val (.long q4), .second, .val (.long q5), .second, .val (.int p6), .val (.ref b1), .val (.int (p6 &&& (15 : Int32))), .val (.long (own_b p6 (1 : Int32) q1 q5)), .second, .val (.long (own_b p6 (2 : Int32) q2 q5)), .second, .val (.long (own_b p6 (4 : Int32) q3 q5)), .second, .val (.long (own_b p6 (8 : Int32) q4 q5)), .second, .val (.ref b7), .val (.int (0 : Int32)), .unset] [])) _
    refine XS.iload X8.here hx rfl (hb hby at_141) rfl ?_
    show Steps p.tables e below (T8.setTop (mkF m 143 #[.val (.long q1), .second, .val (.long q2), .second, .val (.long q3), .second, .val (.long q4), .second, .val (.long q5), .second, .val (.int p6), .val (.ref b1), .val (.int (p6 &&& (15 : Int32))), .val (.long (own_b p6 (1 : Int32) q1 q5)), .second, .val (.long (own_b p6 (2 : Int32) q2 q5)), .second, .val (.long (own_b p6 (4 : Int32) q3 q5)), .second, .val (.long (own_b p6 (8 : Int32) q4 q5)), .second, .val (.ref b7), .val (.int (0 : Int32)), .unset] [(.int (0 : Int32))])) _
    refine XS.iconst X8.here hx rfl (hb hby at_143) ?_
    show Steps p.tables e below (T8.setTop (mkF m 144 #[.val (.long q1), .second, .val (.long q2), .second, .val (.long q3), .second, .val (.long q4), .second, .val (.long q5), .second, .val (.int p6), .val (.ref b1), .val (.int (p6 &&& (15 : Int32))), .val (.long (own_b p6 (1 : Int32) q1 q5)), .second, .val (.long (own_b p6 (2 : Int32) q2 q5)), .second, .val (.long (own_b p6 (4 : Int32) q3 q5)), .second, .val (.long (own_b p6 (8 : Int32) q4 q5)), .second, .val (.ref b7), .val (.int (0 : Int32)), .unset] [(.int (2 : Int32)), (.int (0 : Int32))])) _
    refine XS.icmpYes X8.here hx rfl (pc0 := 144) (pc' := 165) rfl (hb hby at_144) rfl (by decide) (by decide) (by decide) ?_
    show Steps p.tables e below (T8.setTop (mkF m 165 #[.val (.long q1), .second, .val (.long q2), .second, .val (.long q3), .second, .val (.long q4), .second, .val (.long q5), .second, .val (.int p6), .val (.ref b1), .val (.int (p6 &&& (15 : Int32))), .val (.long (own_b p6 (1 : Int32) q1 q5)), .second, .val (.long (own_b p6 (2 : Int32) q2 q5)), .second, .val (.long (own_b p6 (4 : Int32) q3 q5)), .second, .val (.long (own_b p6 (8 : Int32) q4 q5)), .second, .val (.ref b7), .val (.int (0 : Int32)), .unset] [])) _
    refine XS.iload X8.here hx rfl (hb hby at_165) rfl ?_
    show Steps p.tables e below (T8.setTop (mkF m 167 #[.val (.long q1), .second, .val (.long q2), .second, .val (.long q3), .second, .val (.long q4), .second, .val (.long q5), .second, .val (.int p6), .val (.ref b1), .val (.int (p6 &&& (15 : Int32))), .val (.long (own_b p6 (1 : Int32) q1 q5)), .second, .val (.long (own_b p6 (2 : Int32) q2 q5)), .second, .val (.long (own_b p6 (4 : Int32) q3 q5)), .second, .val (.long (own_b p6 (8 : Int32) q4 q5)), .second, .val (.ref b7), .val (.int (0 : Int32)), .unset] [(.int (0 : Int32))])) _
    refine XS.iconst X8.here hx rfl (hb hby at_167) ?_
    show Steps p.tables e below (T8.setTop (mkF m 168 #[.val (.long q1), .second, .val (.long q2), .second, .val (.long q3), .second, .val (.long q4), .second, .val (.long q5), .second, .val (.int p6), .val (.ref b1), .val (.int (p6 &&& (15 : Int32))), .val (.long (own_b p6 (1 : Int32) q1 q5)), .second, .val (.long (own_b p6 (2 : Int32) q2 q5)), .second, .val (.long (own_b p6 (4 : Int32) q3 q5)), .second, .val (.long (own_b p6 (8 : Int32) q4 q5)), .second, .val (.ref b7), .val (.int (0 : Int32)), .unset] [(.int (3 : Int32)), (.int (0 : Int32))])) _
    refine XS.icmpYes X8.here hx rfl (pc0 := 168) (pc' := 179) rfl (hb hby at_168) rfl (by decide) (by decide) (by decide) ?_
    show Steps p.tables e below (T8.setTop (mkF m 179 #[.val (.long q1), .second, .val (.long q2), .second, .val (.long q3), .second, .val (.long q4), .second, .val (.long q5), .second, .val (.int p6), .val (.ref b1), .val (.int (p6 &&& (15 : Int32))), .val (.long (own_b p6 (1 : Int32) q1 q5)), .second, .val (.long (own_b p6 (2 : Int32) q2 q5)), .second, .val (.long (own_b p6 (4 : Int32) q3 q5)), .second, .val (.long (own_b p6 (8 : Int32) q4 q5)), .second, .val (.ref b7), .val (.int (0 : Int32)), .unset] [])) _
    refine XS.iload X8.here hx rfl (hb hby at_179) rfl ?_
    show Steps p.tables e below (T8.setTop (mkF m 181 #[.val (.long q1), .second, .val (.long q2), .second, .val (.long q3), .second, .val (.long q4), .second, .val (.long q5), .second, .val (.int p6), .val (.ref b1), .val (.int (p6 &&& (15 : Int32))), .val (.long (own_b p6 (1 : Int32) q1 q5)), .second, .val (.long (own_b p6 (2 : Int32) q2 q5)), .second, .val (.long (own_b p6 (4 : Int32) q3 q5)), .second, .val (.long (own_b p6 (8 : Int32) q4 q5)), .second, .val (.ref b7), .val (.int (0 : Int32)), .unset] [(.int (p6 &&& (15 : Int32)))])) _
    refine XS.ifNo X8.here hx rfl (hb hby at_181) rfl ((if0 _ _).trans (feq P2).1) ?_
    show Steps p.tables e below (T8.setTop (mkF m 184 #[.val (.long q1), .second, .val (.long q2), .second, .val (.long q3), .second, .val (.long q4), .second, .val (.long q5), .second, .val (.int p6), .val (.ref b1), .val (.int (p6 &&& (15 : Int32))), .val (.long (own_b p6 (1 : Int32) q1 q5)), .second, .val (.long (own_b p6 (2 : Int32) q2 q5)), .second, .val (.long (own_b p6 (4 : Int32) q3 q5)), .second, .val (.long (own_b p6 (8 : Int32) q4 q5)), .second, .val (.ref b7), .val (.int (0 : Int32)), .unset] [])) _
    refine XS.lload X8.here hx rfl (hb hby at_184) rfl ?_
    show Steps p.tables e below (T8.setTop (mkF m 186 #[.val (.long q1), .second, .val (.long q2), .second, .val (.long q3), .second, .val (.long q4), .second, .val (.long q5), .second, .val (.int p6), .val (.ref b1), .val (.int (p6 &&& (15 : Int32))), .val (.long (own_b p6 (1 : Int32) q1 q5)), .second, .val (.long (own_b p6 (2 : Int32) q2 q5)), .second, .val (.long (own_b p6 (4 : Int32) q3 q5)), .second, .val (.long (own_b p6 (8 : Int32) q4 q5)), .second, .val (.ref b7), .val (.int (0 : Int32)), .unset] [(.long q5)])) _
    refine XS.lconst X8.here hx rfl (hb hby at_186) ?_
    show Steps p.tables e below (T8.setTop (mkF m 187 #[.val (.long q1), .second, .val (.long q2), .second, .val (.long q3), .second, .val (.long q4), .second, .val (.long q5), .second, .val (.int p6), .val (.ref b1), .val (.int (p6 &&& (15 : Int32))), .val (.long (own_b p6 (1 : Int32) q1 q5)), .second, .val (.long (own_b p6 (2 : Int32) q2 q5)), .second, .val (.long (own_b p6 (4 : Int32) q3 q5)), .second, .val (.long (own_b p6 (8 : Int32) q4 q5)), .second, .val (.ref b7), .val (.int (0 : Int32)), .unset] [(.long (0 : Int64)), (.long q5)])) _
    refine XS.lcmp X8.here hx rfl (hb hby at_187) rfl ?_
    show Steps p.tables e below (T8.setTop (mkF m 188 #[.val (.long q1), .second, .val (.long q2), .second, .val (.long q3), .second, .val (.long q4), .second, .val (.long q5), .second, .val (.int p6), .val (.ref b1), .val (.int (p6 &&& (15 : Int32))), .val (.long (own_b p6 (1 : Int32) q1 q5)), .second, .val (.long (own_b p6 (2 : Int32) q2 q5)), .second, .val (.long (own_b p6 (4 : Int32) q3 q5)), .second, .val (.long (own_b p6 (8 : Int32) q4 q5)), .second, .val (.ref b7), .val (.int (0 : Int32)), .unset] [(.int (lcmpW q5 (0 : Int64)))])) _
    refine XS.ifYes X8.here hx rfl (pc0 := 188) (pc' := 195) rfl (hb hby at_188) rfl ((if0 _ _).trans (feq P3).2) (by decide) (by decide) ?_
    show Steps p.tables e below (T8.setTop (mkF m 195 #[.val (.long q1), .second, .val (.long q2), .second, .val (.long q3), .second, .val (.long q4), .second, .val (.long q5), .second, .val (.int p6), .val (.ref b1), .val (.int (p6 &&& (15 : Int32))), .val (.long (own_b p6 (1 : Int32) q1 q5)), .second, .val (.long (own_b p6 (2 : Int32) q2 q5)), .second, .val (.long (own_b p6 (4 : Int32) q3 q5)), .second, .val (.long (own_b p6 (8 : Int32) q4 q5)), .second, .val (.ref b7), .val (.int (0 : Int32)), .unset] [])) _
    refine XS.iconst X8.here hx rfl (hb hby at_195) ?_
    show Steps p.tables e below (T8.setTop (mkF m 196 #[.val (.long q1), .second, .val (.long q2), .second, .val (.long q3), .second, .val (.long q4), .second, .val (.long q5), .second, .val (.int p6), .val (.ref b1), .val (.int (p6 &&& (15 : Int32))), .val (.long (own_b p6 (1 : Int32) q1 q5)), .second, .val (.long (own_b p6 (2 : Int32) q2 q5)), .second, .val (.long (own_b p6 (4 : Int32) q3 q5)), .second, .val (.long (own_b p6 (8 : Int32) q4 q5)), .second, .val (.ref b7), .val (.int (0 : Int32)), .unset] [(.int (0 : Int32))])) _
    refine XS.istore X8.here hx rfl (hb hby at_196) rfl (l' := #[.val (.long q1), .second, .val (.long q2), .second, .val (.long q3), .second, .val (.long q4), .second, .val (.long q5), .second, .val (.int p6), .val (.ref b1), .val (.int (p6 &&& (15 : Int32))), .val (.long (own_b p6 (1 : Int32) q1 q5)), .second, .val (.long (own_b p6 (2 : Int32) q2 q5)), .second, .val (.long (own_b p6 (4 : Int32) q3 q5)), .second, .val (.long (own_b p6 (8 : Int32) q4 q5)), .second, .val (.ref b7), .val (.int (0 : Int32)), .val (.int (0 : Int32))]) rfl ?_
    show Steps p.tables e below (T8.setTop (mkF m 198 #[.val (.long q1), .second, .val (.long q2), .second, .val (.long q3), .second, .val (.long q4), .second, .val (.long q5), .second, .val (.int p6), .val (.ref b1), .val (.int (p6 &&& (15 : Int32))), .val (.long (own_b p6 (1 : Int32) q1 q5)), .second, .val (.long (own_b p6 (2 : Int32) q2 q5)), .second, .val (.long (own_b p6 (4 : Int32) q3 q5)), .second, .val (.long (own_b p6 (8 : Int32) q4 q5)), .second, .val (.ref b7), .val (.int (0 : Int32)), .val (.int (0 : Int32))] [])) _
    refine XS.aload X8.here hx rfl (hb hby at_198) rfl rfl ?_
    show Steps p.tables e below (T8.setTop (mkF m 200 #[.val (.long q1), .second, .val (.long q2), .second, .val (.long q3), .second, .val (.long q4), .second, .val (.long q5), .second, .val (.int p6), .val (.ref b1), .val (.int (p6 &&& (15 : Int32))), .val (.long (own_b p6 (1 : Int32) q1 q5)), .second, .val (.long (own_b p6 (2 : Int32) q2 q5)), .second, .val (.long (own_b p6 (4 : Int32) q3 q5)), .second, .val (.long (own_b p6 (8 : Int32) q4 q5)), .second, .val (.ref b7), .val (.int (0 : Int32)), .val (.int (0 : Int32))] [(.ref b1)])) _
    refine XS.aload X8.here hx rfl (hb hby at_200) rfl rfl ?_
    show Steps p.tables e below (T8.setTop (mkF m 202 #[.val (.long q1), .second, .val (.long q2), .second, .val (.long q3), .second, .val (.long q4), .second, .val (.long q5), .second, .val (.int p6), .val (.ref b1), .val (.int (p6 &&& (15 : Int32))), .val (.long (own_b p6 (1 : Int32) q1 q5)), .second, .val (.long (own_b p6 (2 : Int32) q2 q5)), .second, .val (.long (own_b p6 (4 : Int32) q3 q5)), .second, .val (.long (own_b p6 (8 : Int32) q4 q5)), .second, .val (.ref b7), .val (.int (0 : Int32)), .val (.int (0 : Int32))] [(.ref b7), (.ref b1)])) _
    refine st10.trans ?_
    show Steps p.tables e below (T10.setTop (mkF m 205 #[.val (.long q1), .second, .val (.long q2), .second, .val (.long q3), .second, .val (.long q4), .second, .val (.long q5), .second, .val (.int p6), .val (.ref b1), .val (.int (p6 &&& (15 : Int32))), .val (.long (own_b p6 (1 : Int32) q1 q5)), .second, .val (.long (own_b p6 (2 : Int32) q2 q5)), .second, .val (.long (own_b p6 (4 : Int32) q3 q5)), .second, .val (.long (own_b p6 (8 : Int32) q4 q5)), .second, .val (.ref b7), .val (.int (0 : Int32)), .val (.int (0 : Int32))] [(.int (0 : Int32))])) _
    refine XS.iload X10.here hx rfl (hb hby at_205) rfl ?_
    show Steps p.tables e below (T10.setTop (mkF m 207 #[.val (.long q1), .second, .val (.long q2), .second, .val (.long q3), .second, .val (.long q4), .second, .val (.long q5), .second, .val (.int p6), .val (.ref b1), .val (.int (p6 &&& (15 : Int32))), .val (.long (own_b p6 (1 : Int32) q1 q5)), .second, .val (.long (own_b p6 (2 : Int32) q2 q5)), .second, .val (.long (own_b p6 (4 : Int32) q3 q5)), .second, .val (.long (own_b p6 (8 : Int32) q4 q5)), .second, .val (.ref b7), .val (.int (0 : Int32)), .val (.int (0 : Int32))] [(.int (0 : Int32)), (.int (0 : Int32))])) _
    refine XS.icmpNo X10.here hx rfl (hb hby at_207) rfl (by decide) ?_
    show Steps p.tables e below (T10.setTop (mkF m 210 #[.val (.long q1), .second, .val (.long q2), .second, .val (.long q3), .second, .val (.long q4), .second, .val (.long q5), .second, .val (.int p6), .val (.ref b1), .val (.int (p6 &&& (15 : Int32))), .val (.long (own_b p6 (1 : Int32) q1 q5)), .second, .val (.long (own_b p6 (2 : Int32) q2 q5)), .second, .val (.long (own_b p6 (4 : Int32) q3 q5)), .second, .val (.long (own_b p6 (8 : Int32) q4 q5)), .second, .val (.ref b7), .val (.int (0 : Int32)), .val (.int (0 : Int32))] [])) _
    refine XS.aload X10.here hx rfl (hb hby at_210) rfl rfl ?_
    show Steps p.tables e below (T10.setTop (mkF m 212 #[.val (.long q1), .second, .val (.long q2), .second, .val (.long q3), .second, .val (.long q4), .second, .val (.long q5), .second, .val (.int p6), .val (.ref b1), .val (.int (p6 &&& (15 : Int32))), .val (.long (own_b p6 (1 : Int32) q1 q5)), .second, .val (.long (own_b p6 (2 : Int32) q2 q5)), .second, .val (.long (own_b p6 (4 : Int32) q3 q5)), .second, .val (.long (own_b p6 (8 : Int32) q4 q5)), .second, .val (.ref b7), .val (.int (0 : Int32)), .val (.int (0 : Int32))] [(.ref b7)])) _
    refine XS.aload X10.here hx rfl (hb hby at_212) rfl rfl ?_
    show Steps p.tables e below (T10.setTop (mkF m 214 #[.val (.long q1), .second, .val (.long q2), .second, .val (.long q3), .second, .val (.long q4), .second, .val (.long q5), .second, .val (.int p6), .val (.ref b1), .val (.int (p6 &&& (15 : Int32))), .val (.long (own_b p6 (1 : Int32) q1 q5)), .second, .val (.long (own_b p6 (2 : Int32) q2 q5)), .second, .val (.long (own_b p6 (4 : Int32) q3 q5)), .second, .val (.long (own_b p6 (8 : Int32) q4 q5)), .second, .val (.ref b7), .val (.int (0 : Int32)), .val (.int (0 : Int32))] [(.ref b1), (.ref b7)])) _
    refine st11.trans ?_
    show Steps p.tables e below (T11.setTop (mkF m 217 #[.val (.long q1), .second, .val (.long q2), .second, .val (.long q3), .second, .val (.long q4), .second, .val (.long q5), .second, .val (.int p6), .val (.ref b1), .val (.int (p6 &&& (15 : Int32))), .val (.long (own_b p6 (1 : Int32) q1 q5)), .second, .val (.long (own_b p6 (2 : Int32) q2 q5)), .second, .val (.long (own_b p6 (4 : Int32) q3 q5)), .second, .val (.long (own_b p6 (8 : Int32) q4 q5)), .second, .val (.ref b7), .val (.int (0 : Int32)), .val (.int (0 : Int32))] [(.int (0 : Int32))])) _
    refine XS.iload X11.here hx rfl (hb hby at_217) rfl ?_
    show Steps p.tables e below (T11.setTop (mkF m 219 #[.val (.long q1), .second, .val (.long q2), .second, .val (.long q3), .second, .val (.long q4), .second, .val (.long q5), .second, .val (.int p6), .val (.ref b1), .val (.int (p6 &&& (15 : Int32))), .val (.long (own_b p6 (1 : Int32) q1 q5)), .second, .val (.long (own_b p6 (2 : Int32) q2 q5)), .second, .val (.long (own_b p6 (4 : Int32) q3 q5)), .second, .val (.long (own_b p6 (8 : Int32) q4 q5)), .second, .val (.ref b7), .val (.int (0 : Int32)), .val (.int (0 : Int32))] [(.int (0 : Int32)), (.int (0 : Int32))])) _
    refine XS.icmpNo X11.here hx rfl (hb hby at_219) rfl (by decide) ?_
    show Steps p.tables e below (T11.setTop (mkF m 222 #[.val (.long q1), .second, .val (.long q2), .second, .val (.long q3), .second, .val (.long q4), .second, .val (.long q5), .second, .val (.int p6), .val (.ref b1), .val (.int (p6 &&& (15 : Int32))), .val (.long (own_b p6 (1 : Int32) q1 q5)), .second, .val (.long (own_b p6 (2 : Int32) q2 q5)), .second, .val (.long (own_b p6 (4 : Int32) q3 q5)), .second, .val (.long (own_b p6 (8 : Int32) q4 q5)), .second, .val (.ref b7), .val (.int (0 : Int32)), .val (.int (0 : Int32))] [])) _
    refine XS.iconst X11.here hx rfl (hb hby at_222) ?_
    show Steps p.tables e below (T11.setTop (mkF m 223 #[.val (.long q1), .second, .val (.long q2), .second, .val (.long q3), .second, .val (.long q4), .second, .val (.long q5), .second, .val (.int p6), .val (.ref b1), .val (.int (p6 &&& (15 : Int32))), .val (.long (own_b p6 (1 : Int32) q1 q5)), .second, .val (.long (own_b p6 (2 : Int32) q2 q5)), .second, .val (.long (own_b p6 (4 : Int32) q3 q5)), .second, .val (.long (own_b p6 (8 : Int32) q4 q5)), .second, .val (.ref b7), .val (.int (0 : Int32)), .val (.int (0 : Int32))] [(.int (1 : Int32))])) _
    refine XS.goto X11.here hx rfl (pc0 := 223) (pc' := 227) rfl (hb hby at_223) (by decide) (by decide) ?_
    show Steps p.tables e below (T11.setTop (mkF m 227 #[.val (.long q1), .second, .val (.long q2), .second, .val (.long q3), .second, .val (.long q4), .second, .val (.long q5), .second, .val (.int p6), .val (.ref b1), .val (.int (p6 &&& (15 : Int32))), .val (.long (own_b p6 (1 : Int32) q1 q5)), .second, .val (.long (own_b p6 (2 : Int32) q2 q5)), .second, .val (.long (own_b p6 (4 : Int32) q3 q5)), .second, .val (.long (own_b p6 (8 : Int32) q4 q5)), .second, .val (.ref b7), .val (.int (0 : Int32)), .val (.int (0 : Int32))] [(.int (1 : Int32))])) _
    exact retN X11 hx (t := .boolean) Bd.returns (by simp) (hb hby at_227) hr
  · show own_Q1 n0 _ T11.heap _
    rw [e11]
    exact ⟨rfl, N11⟩
set_option maxRecDepth 65536 in
set_option maxHeartbeats 40000000 in
theorem rm3_3 (l : Launch) (Z : State) (a0 : Array Value) (hw : ∀ d ∈ tables_1, d.before a0 Z = true) (r1 : Addr) (r2 : Addr) (q3 : Int64) (q4 : Int64) (q5 : Int64) (q6 : Int64) (q7 : Int64) (q8 : Int64) (h0 : Heap) (n0 : Nat) (O0 : Old Z n0 h0) (P1 : Exa Z h0 r2 "com/example/bide/bide/QueueCounts") (P2 : Fld Z h0 r1 "com/example/bide/bide/QueueCounts" "pending" "J" (.long q3)) (P3 : Fld Z h0 r2 "com/example/bide/bide/QueueCounts" "pending" "J" (.long q4)) (P4 : (lcmpW q3 q4) = (0 : Int32)) (P5 : Fld Z h0 r1 "com/example/bide/bide/QueueCounts" "due" "J" (.long q5)) (P6 : Fld Z h0 r2 "com/example/bide/bide/QueueCounts" "due" "J" (.long q6)) (P7 : (lcmpW q5 q6) = (0 : Int32)) (P8 : Fld Z h0 r1 "com/example/bide/bide/QueueCounts" "leased" "J" (.long q7)) (P9 : Fld Z h0 r2 "com/example/bide/bide/QueueCounts" "leased" "J" (.long q8)) (P10 : ¬ ((lcmpW q7 q8) = (0 : Int32))) :
    MetFree l (⟨"com/example/bide/bide/QueueCounts", "equals", "(Ljava/lang/Object;)Z"⟩ : MethodName) (head1 [Jvm.Cond.code (⟨"com/example/bide/bide/QueueCounts", "equals", "(Ljava/lang/Object;)Z"⟩ : MethodName) prog_3_method_6_code 3 (some .boolean)] ({ frames := 0, cells := 0, slots := 0, locals := 0 } : Room)) (fun a U => a = #[(.ref r1), (.ref r2)] ∧ Z.Warmed39 U.vm ∧ U.heap = h0) (fun _ _ _ _ _ => True) (fun _ U o U' => ∃ v L, o = .returned v ∧ own_QP (some (.int (0 : Int32))) n0 h0 v U'.heap L ∧ FrameEnd U o U' L ({ frames := 0, cells := 0, slots := 0, locals := 0 } : Room).cells ({ frames := 0, cells := 0, slots := 0, locals := 0 } : Room).slots) := by
  refine MetFree.of_bodySF (plainFor_of_name pn_0) hisR ?_
  intro p e s m args below meth c s₁ Bd hml0 hP hK
  obtain ⟨rfl, hZ, hh⟩ := hP
  have hx := Bd.exec
  have hby := Bd.bytes
  have hml : c.maxLocals = 3 := hml0
  have hown : s.vm.findClass "com/example/bide/bide/QueueCounts" = some m.cls := findClass_of_methodNamed Bd.named
  have hnm := (name_of_methodNamed Bd.named Bd.method).1
  have X0 : Stand p l e ({ frames := 0, cells := 0, slots := 0, locals := 0 } : Room) s m #[(.ref r1), (.ref r2)] below meth c s₁ [] 0 0 := Stand.of_body Bd
  have e0 : s₁.heap = h0 := by rw [← hh, Bd.state]; rfl
  have N0 := Fr.nil n0
  have pre0 : ∀ t, Steps p.tables e below (s₁.setTop (mkF m 0 #[.val (.ref r1), .val (.ref r2), .unset] [])) t → Steps p.tables e below (s₁.setTop (entryFrame m #[(.ref r1), (.ref r2)] 3)) t := fun t k => castTop (ef_3_RR m r1 r2) k
  obtain ⟨T1, X1, e1, st1⟩ := instY X0 hx hZ hown (hw _ (List.mem_of_getElem? (i := 22) rfl)) e0 (Ins.self P1) (g := (mkF m 1 #[.val (.ref r1), .val (.ref r2), .unset] [(.ref r2)])) rfl rfl (hb hby d3_1)
  obtain ⟨T2, X2, e2, st2⟩ := castY X1 hx hZ hown (hw _ (List.mem_of_getElem? (i := 22) rfl)) e1 (Ins.self P1) (g := (mkF m 10 #[.val (.ref r1), .val (.ref r2), .unset] [(.ref r2)])) rfl rfl (hb hby d3_10)
  obtain ⟨T3, X3, e3, st3⟩ := getF X2 hx hZ hown (host := "") (Or.inl (hw _ (List.mem_of_getElem? (i := 9) rfl))) Via.refl e2 P2 (g := (mkF m 15 #[.val (.ref r1), .val (.ref r2), .val (.ref r2)] [(.ref r1)])) rfl rfl (hb hby d3_15)
  obtain ⟨T4, X4, e4, st4⟩ := getF X3 hx hZ hown (host := "") (Or.inl (hw _ (List.mem_of_getElem? (i := 9) rfl))) Via.refl e3 P3 (g := (mkF m 19 #[.val (.ref r1), .val (.ref r2), .val (.ref r2)] [(.ref r2), (.long q3)])) rfl rfl (hb hby d3_19)
  obtain ⟨T5, X5, e5, st5⟩ := getF X4 hx hZ hown (host := "") (Or.inl (hw _ (List.mem_of_getElem? (i := 11) rfl))) Via.refl e4 P5 (g := (mkF m 27 #[.val (.ref r1), .val (.ref r2), .val (.ref r2)] [(.ref r1)])) rfl rfl (hb hby d3_27)
  obtain ⟨T6, X6, e6, st6⟩ := getF X5 hx hZ hown (host := "") (Or.inl (hw _ (List.mem_of_getElem? (i := 11) rfl))) Via.refl e5 P6 (g := (mkF m 31 #[.val (.ref r1), .val (.ref r2), .val (.ref r2)] [(.ref r2), (.long q5)])) rfl rfl (hb hby d3_31)
  obtain ⟨T7, X7, e7, st7⟩ := getF X6 hx hZ hown (host := "") (Or.inl (hw _ (List.mem_of_getElem? (i := 13) rfl))) Via.refl e6 P8 (g := (mkF m 39 #[.val (.ref r1), .val (.ref r2), .val (.ref r2)] [(.ref r1)])) rfl rfl (hb hby d3_39)
  obtain ⟨T8, X8, e8, st8⟩ := getF X7 hx hZ hown (host := "") (Or.inl (hw _ (List.mem_of_getElem? (i := 13) rfl))) Via.refl e7 P9 (g := (mkF m 43 #[.val (.ref r1), .val (.ref r2), .val (.ref r2)] [(.ref r2), (.long q7)])) rfl rfl (hb hby d3_43)
  obtain ⟨fs, hr, hrun, hended, hW, hsame⟩ := X8.leave (v := (some (.int (0 : Int32)))) (fun h => by rw [Bd.returns] at h; cases h)
  refine ⟨_, _, pre0 _ ?_, hrun, hended, _, _, rfl, ?_, ⟨_, rfl⟩, hW, hsame.mono (by decide) (by decide)⟩
  · show Steps p.tables e below (s₁.setTop (mkF m 0 #[.val (.ref r1), .val (.ref r2), .unset] [])) _
    refine XS.aloadN X0.here hx rfl (hb hby d3_0) rfl rfl ?_
    show Steps p.tables e below (s₁.setTop (mkF m 1 #[.val (.ref r1), .val (.ref r2), .unset] [(.ref r2)])) _
    refine st1 _ ?_
    show Steps p.tables e below (T1.setTop (mkF m 4 #[.val (.ref r1), .val (.ref r2), .unset] [(.int (1 : Int32))])) _
    refine XS.ifYes X1.here hx rfl (pc0 := 4) (pc' := 9) rfl (hb hby d3_4) rfl (by decide) (by decide) (by decide) ?_
    show Steps p.tables e below (T1.setTop (mkF m 9 #[.val (.ref r1), .val (.ref r2), .unset] [])) _
    refine XS.aloadN X1.here hx rfl (hb hby d3_9) rfl rfl ?_
    show Steps p.tables e below (T1.setTop (mkF m 10 #[.val (.ref r1), .val (.ref r2), .unset] [(.ref r2)])) _
    refine st2 _ ?_
    show Steps p.tables e below (T2.setTop (mkF m 13 #[.val (.ref r1), .val (.ref r2), .unset] [(.ref r2)])) _
    refine XS.astoreN X2.here hx rfl (hb hby d3_13) rfl rfl (l' := #[.val (.ref r1), .val (.ref r2), .val (.ref r2)]) rfl ?_
    show Steps p.tables e below (T2.setTop (mkF m 14 #[.val (.ref r1), .val (.ref r2), .val (.ref r2)] [])) _
    refine XS.aloadN X2.here hx rfl (hb hby d3_14) rfl rfl ?_
    show Steps p.tables e below (T2.setTop (mkF m 15 #[.val (.ref r1), .val (.ref r2), .val (.ref r2)] [(.ref r1)])) _
    refine st3 _ ?_
    show Steps p.tables e below (T3.setTop (mkF m 18 #[.val (.ref r1), .val (.ref r2), .val (.ref r2)] [(.long q3)])) _
    refine XS.aloadN X3.here hx rfl (hb hby d3_18) rfl rfl ?_
    show Steps p.tables e below (T3.setTop (mkF m 19 #[.val (.ref r1), .val (.ref r2), .val (.ref r2)] [(.ref r2), (.long q3)])) _
    refine st4 _ ?_
    show Steps p.tables e below (T4.setTop (mkF m 22 #[.val (.ref r1), .val (.ref r2), .val (.ref r2)] [(.long q4), (.long q3)])) _
    refine XS.lcmp X4.here hx rfl (hb hby d3_22) rfl ?_
    show Steps p.tables e below (T4.setTop (mkF m 23 #[.val (.ref r1), .val (.ref r2), .val (.ref r2)] [(.int (lcmpW q3 q4))])) _
    refine XS.ifNo X4.here hx rfl (hb hby d3_23) rfl ((if0 _ _).trans (teq P4).2) ?_
    show Steps p.tables e below (T4.setTop (mkF m 26 #[.val (.ref r1), .val (.ref r2), .val (.ref r2)] [])) _
    refine XS.aloadN X4.here hx rfl (hb hby d3_26) rfl rfl ?_
    show Steps p.tables e below (T4.setTop (mkF m 27 #[.val (.ref r1), .val (.ref r2), .val (.ref r2)] [(.ref r1)])) _
    refine st5 _ ?_
    show Steps p.tables e below (T5.setTop (mkF m 30 #[.val (.ref r1), .val (.ref r2), .val (.ref r2)] [(.long q5)])) _
    refine XS.aloadN X5.here hx rfl (hb hby d3_30) rfl rfl ?_
    show Steps p.tables e below (T5.setTop (mkF m 31 #[.val (.ref r1), .val (.ref r2), .val (.ref r2)] [(.ref r2), (.long q5)])) _
    refine st6 _ ?_
    show Steps p.tables e below (T6.setTop (mkF m 34 #[.val (.ref r1), .val (.ref r2), .val (.ref r2)] [(.long q6), (.long q5)])) _
    refine XS.lcmp X6.here hx rfl (hb hby d3_34) rfl ?_
    show Steps p.tables e below (T6.setTop (mkF m 35 #[.val (.ref r1), .val (.ref r2), .val (.ref r2)] [(.int (lcmpW q5 q6))])) _
    refine XS.ifNo X6.here hx rfl (hb hby d3_35) rfl ((if0 _ _).trans (teq P7).2) ?_
    show Steps p.tables e below (T6.setTop (mkF m 38 #[.val (.ref r1), .val (.ref r2), .val (.ref r2)] [])) _
    refine XS.aloadN X6.here hx rfl (hb hby d3_38) rfl rfl ?_
    show Steps p.tables e below (T6.setTop (mkF m 39 #[.val (.ref r1), .val (.ref r2), .val (.ref r2)] [(.ref r1)])) _
    refine st7 _ ?_
    show Steps p.tables e below (T7.setTop (mkF m 42 #[.val (.ref r1), .val (.ref r2), .val (.ref r2)] [(.long q7)])) _
    refine XS.aloadN X7.here hx rfl (hb hby d3_42) rfl rfl ?_
    show Steps p.tables e below (T7.setTop (mkF m 43 #[.val (.ref r1), .val (.ref r2), .val (.ref r2)] [(.ref r2), (.long q7)])) _
    refine st8 _ ?_
    show Steps p.tables e below (T8.setTop (mkF m 46 #[.val (.ref r1), .val (.ref r2), .val (.ref r2)] [(.long q8), (.long q7)])) _
    refine XS.lcmp X8.here hx rfl (hb hby d3_46) rfl ?_
    show Steps p.tables e below (T8.setTop (mkF m 47 #[.val (.ref r1), .val (.ref r2), .val (.ref r2)] [(.int (lcmpW q7 q8))])) _
    refine XS.ifYes X8.here hx rfl (pc0 := 47) (pc' := 66) rfl (hb hby d3_47) rfl ((if0 _ _).trans (feq P10).2) (by decide) (by decide) ?_
    show Steps p.tables e below (T8.setTop (mkF m 66 #[.val (.ref r1), .val (.ref r2), .val (.ref r2)] [])) _
    refine XS.iconst X8.here hx rfl (hb hby d3_66) ?_
    show Steps p.tables e below (T8.setTop (mkF m 67 #[.val (.ref r1), .val (.ref r2), .val (.ref r2)] [(.int (0 : Int32))])) _
    exact retN X8 hx (t := .boolean) Bd.returns (by simp) (hb hby d3_67) hr
  · show own_QP (some (.int (0 : Int32))) n0 h0 _ T8.heap _
    rw [e8]
    exact ⟨rfl, N0, rfl⟩
set_option maxRecDepth 65536 in
set_option maxHeartbeats 40000000 in
theorem law_4 (l : Launch) (Z : State) (a0 : Array Value) (hw : ∀ d ∈ tables_1, d.before a0 Z = true) (ws : List Jvm.Cond) (q1 : Int64) (q2 : Int64) (q3 : Int64) (q4 : Int64) (q5 : Int64) (p6 : Int32) (h0 : Heap) (n0 : Nat) (O0 : Old Z n0 h0) (P1 : (((p6.toUInt32 >>> ((4 : Int32) &&& 31).toUInt32).toInt32) &&& (3 : Int32)) = (0 : Int32)) (P2 : ¬ ((p6 &&& (15 : Int32)) = (0 : Int32))) (P3 : ¬ ((lcmpW q5 (0 : Int64)) = (0 : Int32))) (P4 : (lcmpW q1 (own_b p6 (1 : Int32) q1 q5)) = (0 : Int32)) (P5 : (lcmpW q2 (own_b p6 (2 : Int32) q2 q5)) = (0 : Int32)) (P6 : ¬ ((lcmpW q3 (own_b p6 (4 : Int32) q3 q5)) = (0 : Int32))) (P7 : (lcmpW (own_b p6 (1 : Int32) q1 q5) q1) = (0 : Int32)) (P8 : (lcmpW (own_b p6 (2 : Int32) q2 q5) q2) = (0 : Int32)) (P9 : ¬ ((lcmpW (own_b p6 (4 : Int32) q3 q5) q3) = (0 : Int32))) :
    MetFree l x (head1 (Jvm.Cond.code x code maxLocals ret :: ws) room_1) (fun a U => a = #[(.long q1), (.long q2), (.long q3), (.long q4), (.long q5), (.int p6)] ∧ Z.Warmed39 U.vm ∧ U.heap = h0) (fun _ _ _ _ _ => True) (fun _ U o U' => ∃ v L, o = .returned v ∧ own_Q1 n0 v U'.heap L ∧ FrameEnd U o U' L room_1.cells room_1.slots) := by
  refine MetFree.of_bodySF (plainFor_of_name pn_5) hisR ?_
  intro p e s m args below meth c s₁ Bd hml0 hP hK
  obtain ⟨rfl, hZ, hh⟩ := hP
  have hx := Bd.exec
  have hby := Bd.bytes
  have hml : c.maxLocals = 24 := hml0
  have hown : s.vm.findClass "com/example/bide/bide/QueueCountsEqualsPinLaw" = some m.cls := findClass_of_methodNamed Bd.named
  have hnm := (name_of_methodNamed Bd.named Bd.method).1
  have X0 : Stand p l e room_1 s m #[(.long q1), (.long q2), (.long q3), (.long q4), (.long q5), (.int p6)] below meth c s₁ [] 0 0 := Stand.of_body Bd
  have e0 : s₁.heap = h0 := by rw [← hh, Bd.state]; rfl
  have N0 := Fr.nil n0
  have pre0 : ∀ t, Steps p.tables e below (s₁.setTop (mkF m 0 #[.val (.long q1), .second, .val (.long q2), .second, .val (.long q3), .second, .val (.long q4), .second, .val (.long q5), .second, .val (.int p6), .unset, .unset, .unset, .unset, .unset, .unset, .unset, .unset, .unset, .unset, .unset, .unset, .unset] [])) t → Steps p.tables e below (s₁.setTop (entryFrame m #[(.long q1), (.long q2), (.long q3), (.long q4), (.long q5), (.int p6)] maxLocals)) t := fun t k => castTop (ef_0_JJJJJI m q1 q2 q3 q4 q5 p6) k
  obtain ⟨T1, h1, X1, e1, E1, A1, D1, -, st1⟩ := newO X0 hx hZ hown (hw _ (List.mem_of_getElem? (i := 0) rfl)) (hw _ (List.mem_of_getElem? (i := 1) rfl)) (hw _ (List.mem_of_getElem? (i := 2) rfl)) e0 (g := (mkF m 0 #[.val (.long q1), .second, .val (.long q2), .second, .val (.long q3), .second, .val (.long q4), .second, .val (.long q5), .second, .val (.int p6), .unset, .unset, .unset, .unset, .unset, .unset, .unset, .unset, .unset, .unset, .unset, .unset, .unset] [])) rfl (hb hby at_0) (by decide) (by decide)
  obtain ⟨b1, gq1⟩ : ∃ z, z = h0.size := ⟨_, rfl⟩
  rw [← gq1] at A1 D1 st1
  have g_b1 : n0 ≤ b1 := Nat.le_trans ((O0.1 ▸ O0.2.1) : n0 ≤ h0.size) (Nat.le_of_eq gq1.symm)
  have sz_b1 : h0.size ≤ b1 := Nat.le_trans (Keep.refl h0 []).1 (Nat.le_of_eq gq1.symm)
  have KK1 : Keep h0 h1 [] := (Keep.refl h0 []).ext E1
  have O1 := O0.ext E1
  have F_pending_b1 : Fld Z h1 b1 "com/example/bide/bide/QueueCounts" "pending" "J" (.long (0 : Int64)) := D1 (Or.inr (hw _ (List.mem_of_getElem? (i := 10) rfl))) (ty := .long) (by decide)
  have F_due_b1 : Fld Z h1 b1 "com/example/bide/bide/QueueCounts" "due" "J" (.long (0 : Int64)) := D1 (Or.inr (hw _ (List.mem_of_getElem? (i := 12) rfl))) (ty := .long) (by decide)
  have F_leased_b1 : Fld Z h1 b1 "com/example/bide/bide/QueueCounts" "leased" "J" (.long (0 : Int64)) := D1 (Or.inr (hw _ (List.mem_of_getElem? (i := 14) rfl))) (ty := .long) (by decide)
  have F_dead_b1 : Fld Z h1 b1 "com/example/bide/bide/QueueCounts" "dead" "J" (.long (0 : Int64)) := D1 (Or.inr (hw _ (List.mem_of_getElem? (i := 16) rfl))) (ty := .long) (by decide)
  obtain ⟨_, _, ⟨T2, L2, k2, n2⟩, -, X2, ⟨Lc2, hQ2, l2, y2, z2⟩, st2⟩ := X1.specialBack hx (y := (⟨"com/example/bide/bide/QueueCounts", "<init>", "(JJJJ)V"⟩ : MethodName)) rfl hown (mvT hZ (hw _ (List.mem_of_getElem? (i := 3) rfl))) (mvT hZ (hw _ (List.mem_of_getElem? (i := 4) rfl))) (mvT hZ (hw _ (List.mem_of_getElem? (i := 5) rfl))) (by decide) (backOf (W := 1) (rm1_0 l Z a0 hw b1 q1 q2 q3 q4 h1 n0 O1 A1 F_pending_b1 F_due_b1 F_leased_b1 F_dead_b1 g_b1) hZ (hw _ (List.mem_of_getElem? (i := 5) rfl)) (hw _ (List.mem_of_getElem? (i := 2) rfl)) (by decide) (by decide)) (g := (mkF m 10 #[.val (.long q1), .second, .val (.long q2), .second, .val (.long q3), .second, .val (.long q4), .second, .val (.long q5), .second, .val (.int p6), .unset, .unset, .unset, .unset, .unset, .unset, .unset, .unset, .unset, .unset, .unset, .unset, .unset] [(.long q4), (.long q3), (.long q2), (.long q1), (.ref b1), (.ref b1)])) rfl (by rw [hml]; rfl) (Steps.refl _) (a := b1) (argsL := [(.long q1), (.long q2), (.long q3), (.long q4)]) (rest := [(.ref b1)]) (lenOf pd_2 rfl) rfl (by show 2 * 0 + _ ≤ _; exact Nat.le_of_eq rfl) (hb hby at_10) (fun _ _ => ⟨rfl, e1, (by decide : 1 + 0 ≤ _), (by decide : 4 + 0 ≤ _)⟩)
  dsimp only [Pt.U, Pt.locs, Pt.cells, Pt.slots] at X2 l2 y2 z2 st2 hQ2
  subst l2 y2 z2
  obtain ⟨rfl, N2q, K2, f2_0, f2_1, f2_2, f2_3⟩ := hQ2
  have KK2 : Keep h0 T2.heap [] := KK1.trans K2 (allS (Or.inr sz_b1) all0)
  have O2 := O1.keep K2 (allS g_b1 all0)
  have N2 := Fr.app N0 N2q
  have dm3 : ∀ target, Steps p.tables e below (T2.setTop (mkF m 37 #[.val (.long q1), .second, .val (.long q2), .second, .val (.long q3), .second, .val (.long q4), .second, .val (.long q5), .second, .val (.int p6), .val (.ref b1), .val (.int (p6 &&& (15 : Int32))), .unset, .unset, .unset, .unset, .unset, .unset, .unset, .unset, .unset, .unset, .unset] [(.long (own_b p6 (1 : Int32) q1 q5))])) target → Steps p.tables e below (T2.setTop (mkF m 26 #[.val (.long q1), .second, .val (.long q2), .second, .val (.long q3), .second, .val (.long q4), .second, .val (.long q5), .second, .val (.int p6), .val (.ref b1), .val (.int (p6 &&& (15 : Int32))), .unset, .unset, .unset, .unset, .unset, .unset, .unset, .unset, .unset, .unset, .unset] [(.int ((p6 &&& (15 : Int32)) &&& (1 : Int32)))])) target := by
    intro target kt
    by_cases hdb : ((p6 &&& (15 : Int32)) &&& (1 : Int32)) = (0 : Int32)
    · rw [own_b_pos hdb] at kt
      show Steps p.tables e below (T2.setTop (mkF m 26 #[.val (.long q1), .second, .val (.long q2), .second, .val (.long q3), .second, .val (.long q4), .second, .val (.long q5), .second, .val (.int p6), .val (.ref b1), .val (.int (p6 &&& (15 : Int32))), .unset, .unset, .unset, .unset, .unset, .unset, .unset, .unset, .unset, .unset, .unset] [(.int ((p6 &&& (15 : Int32)) &&& (1 : Int32)))])) _
      refine XS.ifYes X2.here hx rfl (pc0 := 26) (pc' := 36) rfl (hb hby at_26) rfl ((if0 _ _).trans (teq hdb).1) (by decide) (by decide) ?_
      show Steps p.tables e below (T2.setTop (mkF m 36 #[.val (.long q1), .second, .val (.long q2), .second, .val (.long q3), .second, .val (.long q4), .second, .val (.long q5), .second, .val (.int p6), .val (.ref b1), .val (.int (p6 &&& (15 : Int32))), .unset, .unset, .unset, .unset, .unset, .unset, .unset, .unset, .unset, .unset, .unset] [])) _
      refine XS.lloadN X2.here hx rfl (hb hby at_36) rfl ?_
      exact kt
    · rw [own_b_neg hdb] at kt
      show Steps p.tables e below (T2.setTop (mkF m 26 #[.val (.long q1), .second, .val (.long q2), .second, .val (.long q3), .second, .val (.long q4), .second, .val (.long q5), .second, .val (.int p6), .val (.ref b1), .val (.int (p6 &&& (15 : Int32))), .unset, .unset, .unset, .unset, .unset, .unset, .unset, .unset, .unset, .unset, .unset] [(.int ((p6 &&& (15 : Int32)) &&& (1 : Int32)))])) _
      refine XS.ifNo X2.here hx rfl (hb hby at_26) rfl ((if0 _ _).trans (feq hdb).1) ?_
      show Steps p.tables e below (T2.setTop (mkF m 29 #[.val (.long q1), .second, .val (.long q2), .second, .val (.long q3), .second, .val (.long q4), .second, .val (.long q5), .second, .val (.int p6), .val (.ref b1), .val (.int (p6 &&& (15 : Int32))), .unset, .unset, .unset, .unset, .unset, .unset, .unset, .unset, .unset, .unset, .unset] [])) _
      refine XS.lloadN X2.here hx rfl (hb hby at_29) rfl ?_
      show Steps p.tables e below (T2.setTop (mkF m 30 #[.val (.long q1), .second, .val (.long q2), .second, .val (.long q3), .second, .val (.long q4), .second, .val (.long q5), .second, .val (.int p6), .val (.ref b1), .val (.int (p6 &&& (15 : Int32))), .unset, .unset, .unset, .unset, .unset, .unset, .unset, .unset, .unset, .unset, .unset] [(.long q1)])) _
      refine XS.lload X2.here hx rfl (hb hby at_30) rfl ?_
      show Steps p.tables e below (T2.setTop (mkF m 32 #[.val (.long q1), .second, .val (.long q2), .second, .val (.long q3), .second, .val (.long q4), .second, .val (.long q5), .second, .val (.int p6), .val (.ref b1), .val (.int (p6 &&& (15 : Int32))), .unset, .unset, .unset, .unset, .unset, .unset, .unset, .unset, .unset, .unset, .unset] [(.long q5), (.long q1)])) _
      refine XS.ladd X2.here hx rfl (hb hby at_32) rfl ?_
      show Steps p.tables e below (T2.setTop (mkF m 33 #[.val (.long q1), .second, .val (.long q2), .second, .val (.long q3), .second, .val (.long q4), .second, .val (.long q5), .second, .val (.int p6), .val (.ref b1), .val (.int (p6 &&& (15 : Int32))), .unset, .unset, .unset, .unset, .unset, .unset, .unset, .unset, .unset, .unset, .unset] [(.long (q1 + q5))])) _
      refine XS.goto X2.here hx rfl (pc0 := 33) (pc' := 37) rfl (hb hby at_33) (by decide) (by decide) ?_
      exact kt
  have dm4 : ∀ target, Steps p.tables e below (T2.setTop (mkF m 54 #[.val (.long q1), .second, .val (.long q2), .second, .val (.long q3), .second, .val (.long q4), .second, .val (.long q5), .second, .val (.int p6), .val (.ref b1), .val (.int (p6 &&& (15 : Int32))), .val (.long (own_b p6 (1 : Int32) q1 q5)), .second, .unset, .unset, .unset, .unset, .unset, .unset, .unset, .unset, .unset] [(.long (own_b p6 (2 : Int32) q2 q5))])) target → Steps p.tables e below (T2.setTop (mkF m 43 #[.val (.long q1), .second, .val (.long q2), .second, .val (.long q3), .second, .val (.long q4), .second, .val (.long q5), .second, .val (.int p6), .val (.ref b1), .val (.int (p6 &&& (15 : Int32))), .val (.long (own_b p6 (1 : Int32) q1 q5)), .second, .unset, .unset, .unset, .unset, .unset, .unset, .unset, .unset, .unset] [(.int ((p6 &&& (15 : Int32)) &&& (2 : Int32)))])) target := by
    intro target kt
    by_cases hdb : ((p6 &&& (15 : Int32)) &&& (2 : Int32)) = (0 : Int32)
    · rw [own_b_pos hdb] at kt
      show Steps p.tables e below (T2.setTop (mkF m 43 #[.val (.long q1), .second, .val (.long q2), .second, .val (.long q3), .second, .val (.long q4), .second, .val (.long q5), .second, .val (.int p6), .val (.ref b1), .val (.int (p6 &&& (15 : Int32))), .val (.long (own_b p6 (1 : Int32) q1 q5)), .second, .unset, .unset, .unset, .unset, .unset, .unset, .unset, .unset, .unset] [(.int ((p6 &&& (15 : Int32)) &&& (2 : Int32)))])) _
      refine XS.ifYes X2.here hx rfl (pc0 := 43) (pc' := 53) rfl (hb hby at_43) rfl ((if0 _ _).trans (teq hdb).1) (by decide) (by decide) ?_
      show Steps p.tables e below (T2.setTop (mkF m 53 #[.val (.long q1), .second, .val (.long q2), .second, .val (.long q3), .second, .val (.long q4), .second, .val (.long q5), .second, .val (.int p6), .val (.ref b1), .val (.int (p6 &&& (15 : Int32))), .val (.long (own_b p6 (1 : Int32) q1 q5)), .second, .unset, .unset, .unset, .unset, .unset, .unset, .unset, .unset, .unset] [])) _
      refine XS.lloadN X2.here hx rfl (hb hby at_53) rfl ?_
      exact kt
    · rw [own_b_neg hdb] at kt
      show Steps p.tables e below (T2.setTop (mkF m 43 #[.val (.long q1), .second, .val (.long q2), .second, .val (.long q3), .second, .val (.long q4), .second, .val (.long q5), .second, .val (.int p6), .val (.ref b1), .val (.int (p6 &&& (15 : Int32))), .val (.long (own_b p6 (1 : Int32) q1 q5)), .second, .unset, .unset, .unset, .unset, .unset, .unset, .unset, .unset, .unset] [(.int ((p6 &&& (15 : Int32)) &&& (2 : Int32)))])) _
      refine XS.ifNo X2.here hx rfl (hb hby at_43) rfl ((if0 _ _).trans (feq hdb).1) ?_
      show Steps p.tables e below (T2.setTop (mkF m 46 #[.val (.long q1), .second, .val (.long q2), .second, .val (.long q3), .second, .val (.long q4), .second, .val (.long q5), .second, .val (.int p6), .val (.ref b1), .val (.int (p6 &&& (15 : Int32))), .val (.long (own_b p6 (1 : Int32) q1 q5)), .second, .unset, .unset, .unset, .unset, .unset, .unset, .unset, .unset, .unset] [])) _
      refine XS.lloadN X2.here hx rfl (hb hby at_46) rfl ?_
      show Steps p.tables e below (T2.setTop (mkF m 47 #[.val (.long q1), .second, .val (.long q2), .second, .val (.long q3), .second, .val (.long q4), .second, .val (.long q5), .second, .val (.int p6), .val (.ref b1), .val (.int (p6 &&& (15 : Int32))), .val (.long (own_b p6 (1 : Int32) q1 q5)), .second, .unset, .unset, .unset, .unset, .unset, .unset, .unset, .unset, .unset] [(.long q2)])) _
      refine XS.lload X2.here hx rfl (hb hby at_47) rfl ?_
      show Steps p.tables e below (T2.setTop (mkF m 49 #[.val (.long q1), .second, .val (.long q2), .second, .val (.long q3), .second, .val (.long q4), .second, .val (.long q5), .second, .val (.int p6), .val (.ref b1), .val (.int (p6 &&& (15 : Int32))), .val (.long (own_b p6 (1 : Int32) q1 q5)), .second, .unset, .unset, .unset, .unset, .unset, .unset, .unset, .unset, .unset] [(.long q5), (.long q2)])) _
      refine XS.ladd X2.here hx rfl (hb hby at_49) rfl ?_
      show Steps p.tables e below (T2.setTop (mkF m 50 #[.val (.long q1), .second, .val (.long q2), .second, .val (.long q3), .second, .val (.long q4), .second, .val (.long q5), .second, .val (.int p6), .val (.ref b1), .val (.int (p6 &&& (15 : Int32))), .val (.long (own_b p6 (1 : Int32) q1 q5)), .second, .unset, .unset, .unset, .unset, .unset, .unset, .unset, .unset, .unset] [(.long (q2 + q5))])) _
      refine XS.goto X2.here hx rfl (pc0 := 50) (pc' := 54) rfl (hb hby at_50) (by decide) (by decide) ?_
      exact kt
  have dm5 : ∀ target, Steps p.tables e below (T2.setTop (mkF m 73 #[.val (.long q1), .second, .val (.long q2), .second, .val (.long q3), .second, .val (.long q4), .second, .val (.long q5), .second, .val (.int p6), .val (.ref b1), .val (.int (p6 &&& (15 : Int32))), .val (.long (own_b p6 (1 : Int32) q1 q5)), .second, .val (.long (own_b p6 (2 : Int32) q2 q5)), .second, .unset, .unset, .unset, .unset, .unset, .unset, .unset] [(.long (own_b p6 (4 : Int32) q3 q5))])) target → Steps p.tables e below (T2.setTop (mkF m 60 #[.val (.long q1), .second, .val (.long q2), .second, .val (.long q3), .second, .val (.long q4), .second, .val (.long q5), .second, .val (.int p6), .val (.ref b1), .val (.int (p6 &&& (15 : Int32))), .val (.long (own_b p6 (1 : Int32) q1 q5)), .second, .val (.long (own_b p6 (2 : Int32) q2 q5)), .second, .unset, .unset, .unset, .unset, .unset, .unset, .unset] [(.int ((p6 &&& (15 : Int32)) &&& (4 : Int32)))])) target := by
    intro target kt
    by_cases hdb : ((p6 &&& (15 : Int32)) &&& (4 : Int32)) = (0 : Int32)
    · rw [own_b_pos hdb] at kt
      show Steps p.tables e below (T2.setTop (mkF m 60 #[.val (.long q1), .second, .val (.long q2), .second, .val (.long q3), .second, .val (.long q4), .second, .val (.long q5), .second, .val (.int p6), .val (.ref b1), .val (.int (p6 &&& (15 : Int32))), .val (.long (own_b p6 (1 : Int32) q1 q5)), .second, .val (.long (own_b p6 (2 : Int32) q2 q5)), .second, .unset, .unset, .unset, .unset, .unset, .unset, .unset] [(.int ((p6 &&& (15 : Int32)) &&& (4 : Int32)))])) _
      refine XS.ifYes X2.here hx rfl (pc0 := 60) (pc' := 71) rfl (hb hby at_60) rfl ((if0 _ _).trans (teq hdb).1) (by decide) (by decide) ?_
      show Steps p.tables e below (T2.setTop (mkF m 71 #[.val (.long q1), .second, .val (.long q2), .second, .val (.long q3), .second, .val (.long q4), .second, .val (.long q5), .second, .val (.int p6), .val (.ref b1), .val (.int (p6 &&& (15 : Int32))), .val (.long (own_b p6 (1 : Int32) q1 q5)), .second, .val (.long (own_b p6 (2 : Int32) q2 q5)), .second, .unset, .unset, .unset, .unset, .unset, .unset, .unset] [])) _
      refine XS.lload X2.here hx rfl (hb hby at_71) rfl ?_
      exact kt
    · rw [own_b_neg hdb] at kt
      show Steps p.tables e below (T2.setTop (mkF m 60 #[.val (.long q1), .second, .val (.long q2), .second, .val (.long q3), .second, .val (.long q4), .second, .val (.long q5), .second, .val (.int p6), .val (.ref b1), .val (.int (p6 &&& (15 : Int32))), .val (.long (own_b p6 (1 : Int32) q1 q5)), .second, .val (.long (own_b p6 (2 : Int32) q2 q5)), .second, .unset, .unset, .unset, .unset, .unset, .unset, .unset] [(.int ((p6 &&& (15 : Int32)) &&& (4 : Int32)))])) _
      refine XS.ifNo X2.here hx rfl (hb hby at_60) rfl ((if0 _ _).trans (feq hdb).1) ?_
      show Steps p.tables e below (T2.setTop (mkF m 63 #[.val (.long q1), .second, .val (.long q2), .second, .val (.long q3), .second, .val (.long q4), .second, .val (.long q5), .second, .val (.int p6), .val (.ref b1), .val (.int (p6 &&& (15 : Int32))), .val (.long (own_b p6 (1 : Int32) q1 q5)), .second, .val (.long (own_b p6 (2 : Int32) q2 q5)), .second, .unset, .unset, .unset, .unset, .unset, .unset, .unset] [])) _
      refine XS.lload X2.here hx rfl (hb hby at_63) rfl ?_
      show Steps p.tables e below (T2.setTop (mkF m 65 #[.val (.long q1), .second, .val (.long q2), .second, .val (.long q3), .second, .val (.long q4), .second, .val (.long q5), .second, .val (.int p6), .val (.ref b1), .val (.int (p6 &&& (15 : Int32))), .val (.long (own_b p6 (1 : Int32) q1 q5)), .second, .val (.long (own_b p6 (2 : Int32) q2 q5)), .second, .unset, .unset, .unset, .unset, .unset, .unset, .unset] [(.long q3)])) _
      refine XS.lload X2.here hx rfl (hb hby at_65) rfl ?_
      show Steps p.tables e below (T2.setTop (mkF m 67 #[.val (.long q1), .second, .val (.long q2), .second, .val (.long q3), .second, .val (.long q4), .second, .val (.long q5), .second, .val (.int p6), .val (.ref b1), .val (.int (p6 &&& (15 : Int32))), .val (.long (own_b p6 (1 : Int32) q1 q5)), .second, .val (.long (own_b p6 (2 : Int32) q2 q5)), .second, .unset, .unset, .unset, .unset, .unset, .unset, .unset] [(.long q5), (.long q3)])) _
      refine XS.ladd X2.here hx rfl (hb hby at_67) rfl ?_
      show Steps p.tables e below (T2.setTop (mkF m 68 #[.val (.long q1), .second, .val (.long q2), .second, .val (.long q3), .second, .val (.long q4), .second, .val (.long q5), .second, .val (.int p6), .val (.ref b1), .val (.int (p6 &&& (15 : Int32))), .val (.long (own_b p6 (1 : Int32) q1 q5)), .second, .val (.long (own_b p6 (2 : Int32) q2 q5)), .second, .unset, .unset, .unset, .unset, .unset, .unset, .unset] [(.long (q3 + q5))])) _
      refine XS.goto X2.here hx rfl (pc0 := 68) (pc' := 73) rfl (hb hby at_68) (by decide) (by decide) ?_
      exact kt
  have dm6 : ∀ target, Steps p.tables e below (T2.setTop (mkF m 93 #[.val (.long q1), .second, .val (.long q2), .second, .val (.long q3), .second, .val (.long q4), .second, .val (.long q5), .second, .val (.int p6), .val (.ref b1), .val (.int (p6 &&& (15 : Int32))), .val (.long (own_b p6 (1 : Int32) q1 q5)), .second, .val (.long (own_b p6 (2 : Int32) q2 q5)), .second, .val (.long (own_b p6 (4 : Int32) q3 q5)), .second, .unset, .unset, .unset, .unset, .unset] [(.long (own_b p6 (8 : Int32) q4 q5))])) target → Steps p.tables e below (T2.setTop (mkF m 80 #[.val (.long q1), .second, .val (.long q2), .second, .val (.long q3), .second, .val (.long q4), .second, .val (.long q5), .second, .val (.int p6), .val (.ref b1), .val (.int (p6 &&& (15 : Int32))), .val (.long (own_b p6 (1 : Int32) q1 q5)), .second, .val (.long (own_b p6 (2 : Int32) q2 q5)), .second, .val (.long (own_b p6 (4 : Int32) q3 q5)), .second, .unset, .unset, .unset, .unset, .unset] [(.int ((p6 &&& (15 : Int32)) &&& (8 : Int32)))])) target := by
    intro target kt
    by_cases hdb : ((p6 &&& (15 : Int32)) &&& (8 : Int32)) = (0 : Int32)
    · rw [own_b_pos hdb] at kt
      show Steps p.tables e below (T2.setTop (mkF m 80 #[.val (.long q1), .second, .val (.long q2), .second, .val (.long q3), .second, .val (.long q4), .second, .val (.long q5), .second, .val (.int p6), .val (.ref b1), .val (.int (p6 &&& (15 : Int32))), .val (.long (own_b p6 (1 : Int32) q1 q5)), .second, .val (.long (own_b p6 (2 : Int32) q2 q5)), .second, .val (.long (own_b p6 (4 : Int32) q3 q5)), .second, .unset, .unset, .unset, .unset, .unset] [(.int ((p6 &&& (15 : Int32)) &&& (8 : Int32)))])) _
      refine XS.ifYes X2.here hx rfl (pc0 := 80) (pc' := 91) rfl (hb hby at_80) rfl ((if0 _ _).trans (teq hdb).1) (by decide) (by decide) ?_
      show Steps p.tables e below (T2.setTop (mkF m 91 #[.val (.long q1), .second, .val (.long q2), .second, .val (.long q3), .second, .val (.long q4), .second, .val (.long q5), .second, .val (.int p6), .val (.ref b1), .val (.int (p6 &&& (15 : Int32))), .val (.long (own_b p6 (1 : Int32) q1 q5)), .second, .val (.long (own_b p6 (2 : Int32) q2 q5)), .second, .val (.long (own_b p6 (4 : Int32) q3 q5)), .second, .unset, .unset, .unset, .unset, .unset] [])) _
      refine XS.lload X2.here hx rfl (hb hby at_91) rfl ?_
      exact kt
    · rw [own_b_neg hdb] at kt
      show Steps p.tables e below (T2.setTop (mkF m 80 #[.val (.long q1), .second, .val (.long q2), .second, .val (.long q3), .second, .val (.long q4), .second, .val (.long q5), .second, .val (.int p6), .val (.ref b1), .val (.int (p6 &&& (15 : Int32))), .val (.long (own_b p6 (1 : Int32) q1 q5)), .second, .val (.long (own_b p6 (2 : Int32) q2 q5)), .second, .val (.long (own_b p6 (4 : Int32) q3 q5)), .second, .unset, .unset, .unset, .unset, .unset] [(.int ((p6 &&& (15 : Int32)) &&& (8 : Int32)))])) _
      refine XS.ifNo X2.here hx rfl (hb hby at_80) rfl ((if0 _ _).trans (feq hdb).1) ?_
      show Steps p.tables e below (T2.setTop (mkF m 83 #[.val (.long q1), .second, .val (.long q2), .second, .val (.long q3), .second, .val (.long q4), .second, .val (.long q5), .second, .val (.int p6), .val (.ref b1), .val (.int (p6 &&& (15 : Int32))), .val (.long (own_b p6 (1 : Int32) q1 q5)), .second, .val (.long (own_b p6 (2 : Int32) q2 q5)), .second, .val (.long (own_b p6 (4 : Int32) q3 q5)), .second, .unset, .unset, .unset, .unset, .unset] [])) _
      refine XS.lload X2.here hx rfl (hb hby at_83) rfl ?_
      show Steps p.tables e below (T2.setTop (mkF m 85 #[.val (.long q1), .second, .val (.long q2), .second, .val (.long q3), .second, .val (.long q4), .second, .val (.long q5), .second, .val (.int p6), .val (.ref b1), .val (.int (p6 &&& (15 : Int32))), .val (.long (own_b p6 (1 : Int32) q1 q5)), .second, .val (.long (own_b p6 (2 : Int32) q2 q5)), .second, .val (.long (own_b p6 (4 : Int32) q3 q5)), .second, .unset, .unset, .unset, .unset, .unset] [(.long q4)])) _
      refine XS.lload X2.here hx rfl (hb hby at_85) rfl ?_
      show Steps p.tables e below (T2.setTop (mkF m 87 #[.val (.long q1), .second, .val (.long q2), .second, .val (.long q3), .second, .val (.long q4), .second, .val (.long q5), .second, .val (.int p6), .val (.ref b1), .val (.int (p6 &&& (15 : Int32))), .val (.long (own_b p6 (1 : Int32) q1 q5)), .second, .val (.long (own_b p6 (2 : Int32) q2 q5)), .second, .val (.long (own_b p6 (4 : Int32) q3 q5)), .second, .unset, .unset, .unset, .unset, .unset] [(.long q5), (.long q4)])) _
      refine XS.ladd X2.here hx rfl (hb hby at_87) rfl ?_
      show Steps p.tables e below (T2.setTop (mkF m 88 #[.val (.long q1), .second, .val (.long q2), .second, .val (.long q3), .second, .val (.long q4), .second, .val (.long q5), .second, .val (.int p6), .val (.ref b1), .val (.int (p6 &&& (15 : Int32))), .val (.long (own_b p6 (1 : Int32) q1 q5)), .second, .val (.long (own_b p6 (2 : Int32) q2 q5)), .second, .val (.long (own_b p6 (4 : Int32) q3 q5)), .second, .unset, .unset, .unset, .unset, .unset] [(.long (q4 + q5))])) _
      refine XS.goto X2.here hx rfl (pc0 := 88) (pc' := 93) rfl (hb hby at_88) (by decide) (by decide) ?_
      exact kt
  obtain ⟨T7, h7, X7, e7, E7, A7, D7, -, st7⟩ := newO X2 hx hZ hown (hw _ (List.mem_of_getElem? (i := 0) rfl)) (hw _ (List.mem_of_getElem? (i := 1) rfl)) (hw _ (List.mem_of_getElem? (i := 2) rfl)) rfl (g := (mkF m 95 #[.val (.long q1), .second, .val (.long q2), .second, .val (.long q3), .second, .val (.long q4), .second, .val (.long q5), .second, .val (.int p6), .val (.ref b1), .val (.int (p6 &&& (15 : Int32))), .val (.long (own_b p6 (1 : Int32) q1 q5)), .second, .val (.long (own_b p6 (2 : Int32) q2 q5)), .second, .val (.long (own_b p6 (4 : Int32) q3 q5)), .second, .val (.long (own_b p6 (8 : Int32) q4 q5)), .second, .unset, .unset, .unset] [])) rfl (hb hby at_95) (by decide) (by decide)
  obtain ⟨b7, gq7⟩ : ∃ z, z = T2.heap.size := ⟨_, rfl⟩
  rw [← gq7] at A7 D7 st7
  have g_b7 : n0 ≤ b7 := Nat.le_trans ((O2.1 ▸ O2.2.1) : n0 ≤ T2.heap.size) (Nat.le_of_eq gq7.symm)
  have sz_b7 : h0.size ≤ b7 := Nat.le_trans KK2.1 (Nat.le_of_eq gq7.symm)
  have KK7 : Keep h0 h7 [] := KK2.ext E7
  have O7 := O2.ext E7
  have F_pending_b7 : Fld Z h7 b7 "com/example/bide/bide/QueueCounts" "pending" "J" (.long (0 : Int64)) := D7 (Or.inr (hw _ (List.mem_of_getElem? (i := 10) rfl))) (ty := .long) (by decide)
  have F_due_b7 : Fld Z h7 b7 "com/example/bide/bide/QueueCounts" "due" "J" (.long (0 : Int64)) := D7 (Or.inr (hw _ (List.mem_of_getElem? (i := 12) rfl))) (ty := .long) (by decide)
  have F_leased_b7 : Fld Z h7 b7 "com/example/bide/bide/QueueCounts" "leased" "J" (.long (0 : Int64)) := D7 (Or.inr (hw _ (List.mem_of_getElem? (i := 14) rfl))) (ty := .long) (by decide)
  have F_dead_b7 : Fld Z h7 b7 "com/example/bide/bide/QueueCounts" "dead" "J" (.long (0 : Int64)) := D7 (Or.inr (hw _ (List.mem_of_getElem? (i := 16) rfl))) (ty := .long) (by decide)
  obtain ⟨_, _, ⟨T8, L8, k8, n8⟩, -, X8, ⟨Lc8, hQ8, l8, y8, z8⟩, st8⟩ := X7.specialBack hx (y := (⟨"com/example/bide/bide/QueueCounts", "<init>", "(JJJJ)V"⟩ : MethodName)) rfl hown (mvT hZ (hw _ (List.mem_of_getElem? (i := 3) rfl))) (mvT hZ (hw _ (List.mem_of_getElem? (i := 4) rfl))) (mvT hZ (hw _ (List.mem_of_getElem? (i := 5) rfl))) (by decide) (backOf (W := 1) (rm1_0 l Z a0 hw b7 (own_b p6 (1 : Int32) q1 q5) (own_b p6 (2 : Int32) q2 q5) (own_b p6 (4 : Int32) q3 q5) (own_b p6 (8 : Int32) q4 q5) h7 n0 O7 A7 F_pending_b7 F_due_b7 F_leased_b7 F_dead_b7 g_b7) hZ (hw _ (List.mem_of_getElem? (i := 5) rfl)) (hw _ (List.mem_of_getElem? (i := 2) rfl)) (by decide) (by decide)) (g := (mkF m 107 #[.val (.long q1), .second, .val (.long q2), .second, .val (.long q3), .second, .val (.long q4), .second, .val (.long q5), .second, .val (.int p6), .val (.ref b1), .val (.int (p6 &&& (15 : Int32))), .val (.long (own_b p6 (1 : Int32) q1 q5)), .second, .val (.long (own_b p6 (2 : Int32) q2 q5)), .second, .val (.long (own_b p6 (4 : Int32) q3 q5)), .second, .val (.long (own_b p6 (8 : Int32) q4 q5)), .second, .unset, .unset, .unset] [(.long (own_b p6 (8 : Int32) q4 q5)), (.long (own_b p6 (4 : Int32) q3 q5)), (.long (own_b p6 (2 : Int32) q2 q5)), (.long (own_b p6 (1 : Int32) q1 q5)), (.ref b7), (.ref b7)])) rfl (by rw [hml]; rfl) (Steps.refl _) (a := b7) (argsL := [(.long (own_b p6 (1 : Int32) q1 q5)), (.long (own_b p6 (2 : Int32) q2 q5)), (.long (own_b p6 (4 : Int32) q3 q5)), (.long (own_b p6 (8 : Int32) q4 q5))]) (rest := [(.ref b7)]) (lenOf pd_2 rfl) rfl (by show 2 * 0 + _ ≤ _; exact Nat.le_of_eq rfl) (hb hby at_107) (fun _ _ => ⟨rfl, e7, (by decide : 2 + 0 ≤ _), (by decide : 8 + 0 ≤ _)⟩)
  dsimp only [Pt.U, Pt.locs, Pt.cells, Pt.slots] at X8 l8 y8 z8 st8 hQ8
  subst l8 y8 z8
  obtain ⟨rfl, N8q, K8, f8_0, f8_1, f8_2, f8_3⟩ := hQ8
  have KK8 : Keep h0 T8.heap [] := KK7.trans K8 (allS (Or.inr sz_b7) all0)
  have O8 := O7.keep K8 (allS g_b7 all0)
  have N8 := Fr.app N2 N8q
  have nz9 : b1 ≠ b7 := (Nat.ne_of_lt (Nat.lt_of_lt_of_le (A1.keep K2).lt (Nat.le_of_eq gq7.symm)))
  obtain ⟨cq10, kq10, q10a, q10b, q10c⟩ := isOf hZ rfl (((A1.keep K2).ext E7).keep K8)
  obtain ⟨_, _, ⟨T10, L10, k10, n10⟩, -, X10, ⟨Lc10, hQ10, l10, y10, z10⟩, st10⟩ := X8.virtualBack hx (y := (⟨"com/example/bide/bide/QueueCounts", "equals", "(Ljava/lang/Object;)Z"⟩ : MethodName)) (z := (⟨"com/example/bide/bide/QueueCounts", "equals", "(Ljava/lang/Object;)Z"⟩ : MethodName)) hown (mvT hZ (hw _ (List.mem_of_getElem? (i := 17) rfl))) (mvT hZ (hw _ (List.mem_of_getElem? (i := 18) rfl))) (notFace_of_selects (args := #[]) (mvT hZ (hw _ (List.mem_of_getElem? (i := 20) rfl)))) (mvT hZ (hw _ (List.mem_of_getElem? (i := 20) rfl))) (mvT hZ (hw _ (List.mem_of_getElem? (i := 19) rfl))) (by decide) (backOf (W := 0) (rm3_3 l Z a0 hw b1 b7 q1 (own_b p6 (1 : Int32) q1 q5) q2 (own_b p6 (2 : Int32) q2 q5) q3 (own_b p6 (4 : Int32) q3 q5) T8.heap n0 O8 (A7.keep K8) ((f2_0.ext E7).keep K8 (ninS nz9 nin0)) f8_0 P4 ((f2_1.ext E7).keep K8 (ninS nz9 nin0)) f8_1 P5 ((f2_2.ext E7).keep K8 (ninS nz9 nin0)) f8_2 P6) hZ (hw _ (List.mem_of_getElem? (i := 21) rfl)) (hw _ (List.mem_of_getElem? (i := 2) rfl)) (by decide) (by decide)) q10a q10c (g := (mkF m 202 #[.val (.long q1), .second, .val (.long q2), .second, .val (.long q3), .second, .val (.long q4), .second, .val (.long q5), .second, .val (.int p6), .val (.ref b1), .val (.int (p6 &&& (15 : Int32))), .val (.long (own_b p6 (1 : Int32) q1 q5)), .second, .val (.long (own_b p6 (2 : Int32) q2 q5)), .second, .val (.long (own_b p6 (4 : Int32) q3 q5)), .second, .val (.long (own_b p6 (8 : Int32) q4 q5)), .second, .val (.ref b7), .val (.int (0 : Int32)), .val (.int (0 : Int32))] [(.ref b7), (.ref b1)])) rfl (by rw [hml]; rfl) (Steps.refl _) (argsL := [(.ref b7)]) (rest := []) (lenOf pd_4 rfl) rfl (by show 2 * 0 + _ ≤ _; exact Nat.le_of_eq rfl) (hb hby at_202) (fun _ _ => ⟨rfl, rfl, (by decide : 2 + 0 ≤ _), (by decide : 8 + 0 ≤ _)⟩)
  dsimp only [Pt.U, Pt.locs, Pt.cells, Pt.slots] at X10 l10 y10 z10 st10 hQ10
  subst l10 y10 z10
  obtain ⟨rfl, N10q, e10⟩ := hQ10
  have N10 := Fr.app N8 N10q
  obtain ⟨cq11, kq11, q11a, q11b, q11c⟩ := isOf hZ e10 (A7.keep K8)
  obtain ⟨_, _, ⟨T11, L11, k11, n11⟩, -, X11, ⟨Lc11, hQ11, l11, y11, z11⟩, st11⟩ := X10.virtualBack hx (y := (⟨"com/example/bide/bide/QueueCounts", "equals", "(Ljava/lang/Object;)Z"⟩ : MethodName)) (z := (⟨"com/example/bide/bide/QueueCounts", "equals", "(Ljava/lang/Object;)Z"⟩ : MethodName)) hown (mvT hZ (hw _ (List.mem_of_getElem? (i := 17) rfl))) (mvT hZ (hw _ (List.mem_of_getElem? (i := 18) rfl))) (notFace_of_selects (args := #[]) (mvT hZ (hw _ (List.mem_of_getElem? (i := 20) rfl)))) (mvT hZ (hw _ (List.mem_of_getElem? (i := 20) rfl))) (mvT hZ (hw _ (List.mem_of_getElem? (i := 19) rfl))) (by decide) (backOf (W := 0) (rm3_3 l Z a0 hw b7 b1 (own_b p6 (1 : Int32) q1 q5) q1 (own_b p6 (2 : Int32) q2 q5) q2 (own_b p6 (4 : Int32) q3 q5) q3 T8.heap n0 O8 (((A1.keep K2).ext E7).keep K8) f8_0 ((f2_0.ext E7).keep K8 (ninS nz9 nin0)) P7 f8_1 ((f2_1.ext E7).keep K8 (ninS nz9 nin0)) P8 f8_2 ((f2_2.ext E7).keep K8 (ninS nz9 nin0)) P9) hZ (hw _ (List.mem_of_getElem? (i := 21) rfl)) (hw _ (List.mem_of_getElem? (i := 2) rfl)) (by decide) (by decide)) q11a q11c (g := (mkF m 214 #[.val (.long q1), .second, .val (.long q2), .second, .val (.long q3), .second, .val (.long q4), .second, .val (.long q5), .second, .val (.int p6), .val (.ref b1), .val (.int (p6 &&& (15 : Int32))), .val (.long (own_b p6 (1 : Int32) q1 q5)), .second, .val (.long (own_b p6 (2 : Int32) q2 q5)), .second, .val (.long (own_b p6 (4 : Int32) q3 q5)), .second, .val (.long (own_b p6 (8 : Int32) q4 q5)), .second, .val (.ref b7), .val (.int (0 : Int32)), .val (.int (0 : Int32))] [(.ref b1), (.ref b7)])) rfl (by rw [hml]; rfl) (Steps.refl _) (argsL := [(.ref b1)]) (rest := []) (lenOf pd_4 rfl) rfl (by show 2 * 0 + _ ≤ _; exact Nat.le_of_eq rfl) (hb hby at_214) (fun _ _ => ⟨rfl, e10, (by decide : 2 + 0 ≤ _), (by decide : 8 + 0 ≤ _)⟩)
  dsimp only [Pt.U, Pt.locs, Pt.cells, Pt.slots] at X11 l11 y11 z11 st11 hQ11
  subst l11 y11 z11
  obtain ⟨rfl, N11q, e11⟩ := hQ11
  have N11 := Fr.app N10 N11q
  obtain ⟨fs, hr, hrun, hended, hW, hsame⟩ := X11.leave (v := some (.int (1 : Int32))) (fun h => by rw [Bd.returns] at h; cases h)
  refine ⟨_, _, pre0 _ ?_, hrun, hended, _, _, rfl, ?_, ⟨_, rfl⟩, hW, hsame.mono (by decide) (by decide)⟩
  · show Steps p.tables e below (s₁.setTop (mkF m 0 #[.val (.long q1), .second, .val (.long q2), .second, .val (.long q3), .second, .val (.long q4), .second, .val (.long q5), .second, .val (.int p6), .unset, .unset, .unset, .unset, .unset, .unset, .unset, .unset, .unset, .unset, .unset, .unset, .unset] [])) _
    refine st1 _ ?_
    show Steps p.tables e below (T1.setTop (mkF m 3 #[.val (.long q1), .second, .val (.long q2), .second, .val (.long q3), .second, .val (.long q4), .second, .val (.long q5), .second, .val (.int p6), .unset, .unset, .unset, .unset, .unset, .unset, .unset, .unset, .unset, .unset, .unset, .unset, .unset] [(.ref b1)])) _
    refine XS.dup X1.here hx rfl (hb hby at_3) rfl rfl ?_
    show Steps p.tables e below (T1.setTop (mkF m 4 #[.val (.long q1), .second, .val (.long q2), .second, .val (.long q3), .second, .val (.long q4), .second, .val (.long q5), .second, .val (.int p6), .unset, .unset, .unset, .unset, .unset, .unset, .unset, .unset, .unset, .unset, .unset, .unset, .unset] [(.ref b1), (.ref b1)])) _
    refine XS.lloadN X1.here hx rfl (hb hby at_4) rfl ?_
    show Steps p.tables e below (T1.setTop (mkF m 5 #[.val (.long q1), .second, .val (.long q2), .second, .val (.long q3), .second, .val (.long q4), .second, .val (.long q5), .second, .val (.int p6), .unset, .unset, .unset, .unset, .unset, .unset, .unset, .unset, .unset, .unset, .unset, .unset, .unset] [(.long q1), (.ref b1), (.ref b1)])) _
    refine XS.lloadN X1.here hx rfl (hb hby at_5) rfl ?_
    show Steps p.tables e below (T1.setTop (mkF m 6 #[.val (.long q1), .second, .val (.long q2), .second, .val (.long q3), .second, .val (.long q4), .second, .val (.long q5), .second, .val (.int p6), .unset, .unset, .unset, .unset, .unset, .unset, .unset, .unset, .unset, .unset, .unset, .unset, .unset] [(.long q2), (.long q1), (.ref b1), (.ref b1)])) _
    refine XS.lload X1.here hx rfl (hb hby at_6) rfl ?_
    show Steps p.tables e below (T1.setTop (mkF m 8 #[.val (.long q1), .second, .val (.long q2), .second, .val (.long q3), .second, .val (.long q4), .second, .val (.long q5), .second, .val (.int p6), .unset, .unset, .unset, .unset, .unset, .unset, .unset, .unset, .unset, .unset, .unset, .unset, .unset] [(.long q3), (.long q2), (.long q1), (.ref b1), (.ref b1)])) _
    refine XS.lload X1.here hx rfl (hb hby at_8) rfl ?_
    show Steps p.tables e below (T1.setTop (mkF m 10 #[.val (.long q1), .second, .val (.long q2), .second, .val (.long q3), .second, .val (.long q4), .second, .val (.long q5), .second, .val (.int p6), .unset, .unset, .unset, .unset, .unset, .unset, .unset, .unset, .unset, .unset, .unset, .unset, .unset] [(.long q4), (.long q3), (.long q2), (.long q1), (.ref b1), (.ref b1)])) _
    refine st2.trans ?_
    show Steps p.tables e below (T2.setTop (mkF m 13 #[.val (.long q1), .second, .val (.long q2), .second, .val (.long q3), .second, .val (.long q4), .second, .val (.long q5), .second, .val (.int p6), .unset, .unset, .unset, .unset, .unset, .unset, .unset, .unset, .unset, .unset, .unset, .unset, .unset] [(.ref b1)])) _
    refine XS.astore X2.here hx rfl (hb hby at_13) rfl rfl (l' := #[.val (.long q1), .second, .val (.long q2), .second, .val (.long q3), .second, .val (.long q4), .second, .val (.long q5), .second, .val (.int p6), .val (.ref b1), .unset, .unset, .unset, .unset, .unset, .unset, .unset, .unset, .unset, .unset, .unset, .unset]) rfl ?_
    show Steps p.tables e below (T2.setTop (mkF m 15 #[.val (.long q1), .second, .val (.long q2), .second, .val (.long q3), .second, .val (.long q4), .second, .val (.long q5), .second, .val (.int p6), .val (.ref b1), .unset, .unset, .unset, .unset, .unset, .unset, .unset, .unset, .unset, .unset, .unset, .unset] [])) _
    refine XS.iload X2.here hx rfl (hb hby at_15) rfl ?_
    show Steps p.tables e below (T2.setTop (mkF m 17 #[.val (.long q1), .second, .val (.long q2), .second, .val (.long q3), .second, .val (.long q4), .second, .val (.long q5), .second, .val (.int p6), .val (.ref b1), .unset, .unset, .unset, .unset, .unset, .unset, .unset, .unset, .unset, .unset, .unset, .unset] [(.int p6)])) _
    refine XS.bipush X2.here hx rfl (hb hby at_17) ?_
    show Steps p.tables e below (T2.setTop (mkF m 19 #[.val (.long q1), .second, .val (.long q2), .second, .val (.long q3), .second, .val (.long q4), .second, .val (.long q5), .second, .val (.int p6), .val (.ref b1), .unset, .unset, .unset, .unset, .unset, .unset, .unset, .unset, .unset, .unset, .unset, .unset] [(.int (15 : Int32)), (.int p6)])) _
    refine XS.iand X2.here hx rfl (hb hby at_19) rfl ?_
    show Steps p.tables e below (T2.setTop (mkF m 20 #[.val (.long q1), .second, .val (.long q2), .second, .val (.long q3), .second, .val (.long q4), .second, .val (.long q5), .second, .val (.int p6), .val (.ref b1), .unset, .unset, .unset, .unset, .unset, .unset, .unset, .unset, .unset, .unset, .unset, .unset] [(.int (p6 &&& (15 : Int32)))])) _
    refine XS.istore X2.here hx rfl (hb hby at_20) rfl (l' := #[.val (.long q1), .second, .val (.long q2), .second, .val (.long q3), .second, .val (.long q4), .second, .val (.long q5), .second, .val (.int p6), .val (.ref b1), .val (.int (p6 &&& (15 : Int32))), .unset, .unset, .unset, .unset, .unset, .unset, .unset, .unset, .unset, .unset, .unset]) rfl ?_
    show Steps p.tables e below (T2.setTop (mkF m 22 #[.val (.long q1), .second, .val (.long q2), .second, .val (.long q3), .second, .val (.long q4), .second, .val (.long q5), .second, .val (.int p6), .val (.ref b1), .val (.int (p6 &&& (15 : Int32))), .unset, .unset, .unset, .unset, .unset, .unset, .unset, .unset, .unset, .unset, .unset] [])) _
    refine XS.iload X2.here hx rfl (hb hby at_22) rfl ?_
    show Steps p.tables e below (T2.setTop (mkF m 24 #[.val (.long q1), .second, .val (.long q2), .second, .val (.long q3), .second, .val (.long q4), .second, .val (.long q5), .second, .val (.int p6), .val (.ref b1), .val (.int (p6 &&& (15 : Int32))), .unset, .unset, .unset, .unset, .unset, .unset, .unset, .unset, .unset, .unset, .unset] [(.int (p6 &&& (15 : Int32)))])) _
    refine XS.iconst X2.here hx rfl (hb hby at_24) ?_
    show Steps p.tables e below (T2.setTop (mkF m 25 #[.val (.long q1), .second, .val (.long q2), .second, .val (.long q3), .second, .val (.long q4), .second, .val (.long q5), .second, .val (.int p6), .val (.ref b1), .val (.int (p6 &&& (15 : Int32))), .unset, .unset, .unset, .unset, .unset, .unset, .unset, .unset, .unset, .unset, .unset] [(.int (1 : Int32)), (.int (p6 &&& (15 : Int32)))])) _
    refine XS.iand X2.here hx rfl (hb hby at_25) rfl ?_
    show Steps p.tables e below (T2.setTop (mkF m 26 #[.val (.long q1), .second, .val (.long q2), .second, .val (.long q3), .second, .val (.long q4), .second, .val (.long q5), .second, .val (.int p6), .val (.ref b1), .val (.int (p6 &&& (15 : Int32))), .unset, .unset, .unset, .unset, .unset, .unset, .unset, .unset, .unset, .unset, .unset] [(.int ((p6 &&& (15 : Int32)) &&& (1 : Int32)))])) _
    refine dm3 _ ?_
    show Steps p.tables e below (T2.setTop (mkF m 37 #[.val (.long q1), .second, .val (.long q2), .second, .val (.long q3), .second, .val (.long q4), .second, .val (.long q5), .second, .val (.int p6), .val (.ref b1), .val (.int (p6 &&& (15 : Int32))), .unset, .unset, .unset, .unset, .unset, .unset, .unset, .unset, .unset, .unset, .unset] [(.long (own_b p6 (1 : Int32) q1 q5))])) _
    refine XS.lstore X2.here hx rfl (hb hby at_37) rfl (l' := #[.val (.long q1), .second, .val (.long q2), .second, .val (.long q3), .second, .val (.long q4), .second, .val (.long q5), .second, .val (.int p6), .val (.ref b1), .val (.int (p6 &&& (15 : Int32))), .val (.long (own_b p6 (1 : Int32) q1 q5)), .second, .unset, .unset, .unset, .unset, .unset, .unset, .unset, .unset, .unset]) rfl ?_
    show Steps p.tables e below (T2.setTop (mkF m 39 #[.val (.long q1), .second, .val (.long q2), .second, .val (.long q3), .second, .val (.long q4), .second, .val (.long q5), .second, .val (.int p6), .val (.ref b1), .val (.int (p6 &&& (15 : Int32))), .val (.long (own_b p6 (1 : Int32) q1 q5)), .second, .unset, .unset, .unset, .unset, .unset, .unset, .unset, .unset, .unset] [])) _
    refine XS.iload X2.here hx rfl (hb hby at_39) rfl ?_
    show Steps p.tables e below (T2.setTop (mkF m 41 #[.val (.long q1), .second, .val (.long q2), .second, .val (.long q3), .second, .val (.long q4), .second, .val (.long q5), .second, .val (.int p6), .val (.ref b1), .val (.int (p6 &&& (15 : Int32))), .val (.long (own_b p6 (1 : Int32) q1 q5)), .second, .unset, .unset, .unset, .unset, .unset, .unset, .unset, .unset, .unset] [(.int (p6 &&& (15 : Int32)))])) _
    refine XS.iconst X2.here hx rfl (hb hby at_41) ?_
    show Steps p.tables e below (T2.setTop (mkF m 42 #[.val (.long q1), .second, .val (.long q2), .second, .val (.long q3), .second, .val (.long q4), .second, .val (.long q5), .second, .val (.int p6), .val (.ref b1), .val (.int (p6 &&& (15 : Int32))), .val (.long (own_b p6 (1 : Int32) q1 q5)), .second, .unset, .unset, .unset, .unset, .unset, .unset, .unset, .unset, .unset] [(.int (2 : Int32)), (.int (p6 &&& (15 : Int32)))])) _
    refine XS.iand X2.here hx rfl (hb hby at_42) rfl ?_
    show Steps p.tables e below (T2.setTop (mkF m 43 #[.val (.long q1), .second, .val (.long q2), .second, .val (.long q3), .second, .val (.long q4), .second, .val (.long q5), .second, .val (.int p6), .val (.ref b1), .val (.int (p6 &&& (15 : Int32))), .val (.long (own_b p6 (1 : Int32) q1 q5)), .second, .unset, .unset, .unset, .unset, .unset, .unset, .unset, .unset, .unset] [(.int ((p6 &&& (15 : Int32)) &&& (2 : Int32)))])) _
    refine dm4 _ ?_
    show Steps p.tables e below (T2.setTop (mkF m 54 #[.val (.long q1), .second, .val (.long q2), .second, .val (.long q3), .second, .val (.long q4), .second, .val (.long q5), .second, .val (.int p6), .val (.ref b1), .val (.int (p6 &&& (15 : Int32))), .val (.long (own_b p6 (1 : Int32) q1 q5)), .second, .unset, .unset, .unset, .unset, .unset, .unset, .unset, .unset, .unset] [(.long (own_b p6 (2 : Int32) q2 q5))])) _
    refine XS.lstore X2.here hx rfl (hb hby at_54) rfl (l' := #[.val (.long q1), .second, .val (.long q2), .second, .val (.long q3), .second, .val (.long q4), .second, .val (.long q5), .second, .val (.int p6), .val (.ref b1), .val (.int (p6 &&& (15 : Int32))), .val (.long (own_b p6 (1 : Int32) q1 q5)), .second, .val (.long (own_b p6 (2 : Int32) q2 q5)), .second, .unset, .unset, .unset, .unset, .unset, .unset, .unset]) rfl ?_
    show Steps p.tables e below (T2.setTop (mkF m 56 #[.val (.long q1), .second, .val (.long q2), .second, .val (.long q3), .second, .val (.long q4), .second, .val (.long q5), .second, .val (.int p6), .val (.ref b1), .val (.int (p6 &&& (15 : Int32))), .val (.long (own_b p6 (1 : Int32) q1 q5)), .second, .val (.long (own_b p6 (2 : Int32) q2 q5)), .second, .unset, .unset, .unset, .unset, .unset, .unset, .unset] [])) _
    refine XS.iload X2.here hx rfl (hb hby at_56) rfl ?_
    show Steps p.tables e below (T2.setTop (mkF m 58 #[.val (.long q1), .second, .val (.long q2), .second, .val (.long q3), .second, .val (.long q4), .second, .val (.long q5), .second, .val (.int p6), .val (.ref b1), .val (.int (p6 &&& (15 : Int32))), .val (.long (own_b p6 (1 : Int32) q1 q5)), .second, .val (.long (own_b p6 (2 : Int32) q2 q5)), .second, .unset, .unset, .unset, .unset, .unset, .unset, .unset] [(.int (p6 &&& (15 : Int32)))])) _
    refine XS.iconst X2.here hx rfl (hb hby at_58) ?_
    show Steps p.tables e below (T2.setTop (mkF m 59 #[.val (.long q1), .second, .val (.long q2), .second, .val (.long q3), .second, .val (.long q4), .second, .val (.long q5), .second, .val (.int p6), .val (.ref b1), .val (.int (p6 &&& (15 : Int32))), .val (.long (own_b p6 (1 : Int32) q1 q5)), .second, .val (.long (own_b p6 (2 : Int32) q2 q5)), .second, .unset, .unset, .unset, .unset, .unset, .unset, .unset] [(.int (4 : Int32)), (.int (p6 &&& (15 : Int32)))])) _
    refine XS.iand X2.here hx rfl (hb hby at_59) rfl ?_
    show Steps p.tables e below (T2.setTop (mkF m 60 #[.val (.long q1), .second, .val (.long q2), .second, .val (.long q3), .second, .val (.long q4), .second, .val (.long q5), .second, .val (.int p6), .val (.ref b1), .val (.int (p6 &&& (15 : Int32))), .val (.long (own_b p6 (1 : Int32) q1 q5)), .second, .val (.long (own_b p6 (2 : Int32) q2 q5)), .second, .unset, .unset, .unset, .unset, .unset, .unset, .unset] [(.int ((p6 &&& (15 : Int32)) &&& (4 : Int32)))])) _
    refine dm5 _ ?_
    show Steps p.tables e below (T2.setTop (mkF m 73 #[.val (.long q1), .second, .val (.long q2), .second, .val (.long q3), .second, .val (.long q4), .second, .val (.long q5), .second, .val (.int p6), .val (.ref b1), .val (.int (p6 &&& (15 : Int32))), .val (.long (own_b p6 (1 : Int32) q1 q5)), .second, .val (.long (own_b p6 (2 : Int32) q2 q5)), .second, .unset, .unset, .unset, .unset, .unset, .unset, .unset] [(.long (own_b p6 (4 : Int32) q3 q5))])) _
    refine XS.lstore X2.here hx rfl (hb hby at_73) rfl (l' := #[.val (.long q1), .second, .val (.long q2), .second, .val (.long q3), .second, .val (.long q4), .second, .val (.long q5), .second, .val (.int p6), .val (.ref b1), .val (.int (p6 &&& (15 : Int32))), .val (.long (own_b p6 (1 : Int32) q1 q5)), .second, .val (.long (own_b p6 (2 : Int32) q2 q5)), .second, .val (.long (own_b p6 (4 : Int32) q3 q5)), .second, .unset, .unset, .unset, .unset, .unset]) rfl ?_
    show Steps p.tables e below (T2.setTop (mkF m 75 #[.val (.long q1), .second, .val (.long q2), .second, .val (.long q3), .second, .val (.long q4), .second, .val (.long q5), .second, .val (.int p6), .val (.ref b1), .val (.int (p6 &&& (15 : Int32))), .val (.long (own_b p6 (1 : Int32) q1 q5)), .second, .val (.long (own_b p6 (2 : Int32) q2 q5)), .second, .val (.long (own_b p6 (4 : Int32) q3 q5)), .second, .unset, .unset, .unset, .unset, .unset] [])) _
    refine XS.iload X2.here hx rfl (hb hby at_75) rfl ?_
    show Steps p.tables e below (T2.setTop (mkF m 77 #[.val (.long q1), .second, .val (.long q2), .second, .val (.long q3), .second, .val (.long q4), .second, .val (.long q5), .second, .val (.int p6), .val (.ref b1), .val (.int (p6 &&& (15 : Int32))), .val (.long (own_b p6 (1 : Int32) q1 q5)), .second, .val (.long (own_b p6 (2 : Int32) q2 q5)), .second, .val (.long (own_b p6 (4 : Int32) q3 q5)), .second, .unset, .unset, .unset, .unset, .unset] [(.int (p6 &&& (15 : Int32)))])) _
    refine XS.bipush X2.here hx rfl (hb hby at_77) ?_
    show Steps p.tables e below (T2.setTop (mkF m 79 #[.val (.long q1), .second, .val (.long q2), .second, .val (.long q3), .second, .val (.long q4), .second, .val (.long q5), .second, .val (.int p6), .val (.ref b1), .val (.int (p6 &&& (15 : Int32))), .val (.long (own_b p6 (1 : Int32) q1 q5)), .second, .val (.long (own_b p6 (2 : Int32) q2 q5)), .second, .val (.long (own_b p6 (4 : Int32) q3 q5)), .second, .unset, .unset, .unset, .unset, .unset] [(.int (8 : Int32)), (.int (p6 &&& (15 : Int32)))])) _
    refine XS.iand X2.here hx rfl (hb hby at_79) rfl ?_
    show Steps p.tables e below (T2.setTop (mkF m 80 #[.val (.long q1), .second, .val (.long q2), .second, .val (.long q3), .second, .val (.long q4), .second, .val (.long q5), .second, .val (.int p6), .val (.ref b1), .val (.int (p6 &&& (15 : Int32))), .val (.long (own_b p6 (1 : Int32) q1 q5)), .second, .val (.long (own_b p6 (2 : Int32) q2 q5)), .second, .val (.long (own_b p6 (4 : Int32) q3 q5)), .second, .unset, .unset, .unset, .unset, .unset] [(.int ((p6 &&& (15 : Int32)) &&& (8 : Int32)))])) _
    refine dm6 _ ?_
    show Steps p.tables e below (T2.setTop (mkF m 93 #[.val (.long q1), .second, .val (.long q2), .second, .val (.long q3), .second, .val (.long q4), .second, .val (.long q5), .second, .val (.int p6), .val (.ref b1), .val (.int (p6 &&& (15 : Int32))), .val (.long (own_b p6 (1 : Int32) q1 q5)), .second, .val (.long (own_b p6 (2 : Int32) q2 q5)), .second, .val (.long (own_b p6 (4 : Int32) q3 q5)), .second, .unset, .unset, .unset, .unset, .unset] [(.long (own_b p6 (8 : Int32) q4 q5))])) _
    refine XS.lstore X2.here hx rfl (hb hby at_93) rfl (l' := #[.val (.long q1), .second, .val (.long q2), .second, .val (.long q3), .second, .val (.long q4), .second, .val (.long q5), .second, .val (.int p6), .val (.ref b1), .val (.int (p6 &&& (15 : Int32))), .val (.long (own_b p6 (1 : Int32) q1 q5)), .second, .val (.long (own_b p6 (2 : Int32) q2 q5)), .second, .val (.long (own_b p6 (4 : Int32) q3 q5)), .second, .val (.long (own_b p6 (8 : Int32) q4 q5)), .second, .unset, .unset, .unset]) rfl ?_
    show Steps p.tables e below (T2.setTop (mkF m 95 #[.val (.long q1), .second, .val (.long q2), .second, .val (.long q3), .second, .val (.long q4), .second, .val (.long q5), .second, .val (.int p6), .val (.ref b1), .val (.int (p6 &&& (15 : Int32))), .val (.long (own_b p6 (1 : Int32) q1 q5)), .second, .val (.long (own_b p6 (2 : Int32) q2 q5)), .second, .val (.long (own_b p6 (4 : Int32) q3 q5)), .second, .val (.long (own_b p6 (8 : Int32) q4 q5)), .second, .unset, .unset, .unset] [])) _
    refine st7 _ ?_
    show Steps p.tables e below (T7.setTop (mkF m 98 #[.val (.long q1), .second, .val (.long q2), .second, .val (.long q3), .second, .val (.long q4), .second, .val (.long q5), .second, .val (.int p6), .val (.ref b1), .val (.int (p6 &&& (15 : Int32))), .val (.long (own_b p6 (1 : Int32) q1 q5)), .second, .val (.long (own_b p6 (2 : Int32) q2 q5)), .second, .val (.long (own_b p6 (4 : Int32) q3 q5)), .second, .val (.long (own_b p6 (8 : Int32) q4 q5)), .second, .unset, .unset, .unset] [(.ref b7)])) _
    refine XS.dup X7.here hx rfl (hb hby at_98) rfl rfl ?_
    show Steps p.tables e below (T7.setTop (mkF m 99 #[.val (.long q1), .second, .val (.long q2), .second, .val (.long q3), .second, .val (.long q4), .second, .val (.long q5), .second, .val (.int p6), .val (.ref b1), .val (.int (p6 &&& (15 : Int32))), .val (.long (own_b p6 (1 : Int32) q1 q5)), .second, .val (.long (own_b p6 (2 : Int32) q2 q5)), .second, .val (.long (own_b p6 (4 : Int32) q3 q5)), .second, .val (.long (own_b p6 (8 : Int32) q4 q5)), .second, .unset, .unset, .unset] [(.ref b7), (.ref b7)])) _
    refine XS.lload X7.here hx rfl (hb hby at_99) rfl ?_
    show Steps p.tables e below (T7.setTop (mkF m 101 #[.val (.long q1), .second, .val (.long q2), .second, .val (.long q3), .second, .val (.long q4), .second, .val (.long q5), .second, .val (.int p6), .val (.ref b1), .val (.int (p6 &&& (15 : Int32))), .val (.long (own_b p6 (1 : Int32) q1 q5)), .second, .val (.long (own_b p6 (2 : Int32) q2 q5)), .second, .val (.long (own_b p6 (4 : Int32) q3 q5)), .second, .val (.long (own_b p6 (8 : Int32) q4 q5)), .second, .unset, .unset, .unset] [(.long (own_b p6 (1 : Int32) q1 q5)), (.ref b7), (.ref b7)])) _
    refine XS.lload X7.here hx rfl (hb hby at_101) rfl ?_
    show Steps p.tables e below (T7.setTop (mkF m 103 #[.val (.long q1), .second, .val (.long q2), .second, .val (.long q3), .second, .val (.long q4), .second, .val (.long q5), .second, .val (.int p6), .val (.ref b1), .val (.int (p6 &&& (15 : Int32))), .val (.long (own_b p6 (1 : Int32) q1 q5)), .second, .val (.long (own_b p6 (2 : Int32) q2 q5)), .second, .val (.long (own_b p6 (4 : Int32) q3 q5)), .second, .val (.long (own_b p6 (8 : Int32) q4 q5)), .second, .unset, .unset, .unset] [(.long (own_b p6 (2 : Int32) q2 q5)), (.long (own_b p6 (1 : Int32) q1 q5)), (.ref b7), (.ref b7)])) _
    refine XS.lload X7.here hx rfl (hb hby at_103) rfl ?_
    show Steps p.tables e below (T7.setTop (mkF m 105 #[.val (.long q1), .second, .val (.long q2), .second, .val (.long q3), .second, .val (.long q4), .second, .val (.long q5), .second, .val (.int p6), .val (.ref b1), .val (.int (p6 &&& (15 : Int32))), .val (.long (own_b p6 (1 : Int32) q1 q5)), .second, .val (.long (own_b p6 (2 : Int32) q2 q5)), .second, .val (.long (own_b p6 (4 : Int32) q3 q5)), .second, .val (.long (own_b p6 (8 : Int32) q4 q5)), .second, .unset, .unset, .unset] [(.long (own_b p6 (4 : Int32) q3 q5)), (.long (own_b p6 (2 : Int32) q2 q5)), (.long (own_b p6 (1 : Int32) q1 q5)), (.ref b7), (.ref b7)])) _
    refine XS.lload X7.here hx rfl (hb hby at_105) rfl ?_
    show Steps p.tables e below (T7.setTop (mkF m 107 #[.val (.long q1), .second, .val (.long q2), .second, .val (.long q3), .second, .val (.long q4), .second, .val (.long q5), .second, .val (.int p6), .val (.ref b1), .val (.int (p6 &&& (15 : Int32))), .val (.long (own_b p6 (1 : Int32) q1 q5)), .second, .val (.long (own_b p6 (2 : Int32) q2 q5)), .second, .val (.long (own_b p6 (4 : Int32) q3 q5)), .second, .val (.long (own_b p6 (8 : Int32) q4 q5)), .second, .unset, .unset, .unset] [(.long (own_b p6 (8 : Int32) q4 q5)), (.long (own_b p6 (4 : Int32) q3 q5)), (.long (own_b p6 (2 : Int32) q2 q5)), (.long (own_b p6 (1 : Int32) q1 q5)), (.ref b7), (.ref b7)])) _
    refine st8.trans ?_
    show Steps p.tables e below (T8.setTop (mkF m 110 #[.val (.long q1), .second, .val (.long q2), .second, .val (.long q3), .second, .val (.long q4), .second, .val (.long q5), .second, .val (.int p6), .val (.ref b1), .val (.int (p6 &&& (15 : Int32))), .val (.long (own_b p6 (1 : Int32) q1 q5)), .second, .val (.long (own_b p6 (2 : Int32) q2 q5)), .second, .val (.long (own_b p6 (4 : Int32) q3 q5)), .second, .val (.long (own_b p6 (8 : Int32) q4 q5)), .second, .unset, .unset, .unset] [(.ref b7)])) _
    refine XS.astore X8.here hx rfl (hb hby at_110) rfl rfl (l' := #[.val (.long q1), .second, .val (.long q2), .second, .val (.long q3), .second, .val (.long q4), .second, .val (.long q5), .second, .val (.int p6), .val (.ref b1), .val (.int (p6 &&& (15 : Int32))), .val (.long (own_b p6 (1 : Int32) q1 q5)), .second, .val (.long (own_b p6 (2 : Int32) q2 q5)), .second, .val (.long (own_b p6 (4 : Int32) q3 q5)), .second, .val (.long (own_b p6 (8 : Int32) q4 q5)), .second, .val (.ref b7), .unset, .unset]) rfl ?_
    show Steps p.tables e below (T8.setTop (mkF m 112 #[.val (.long q1), .second, .val (.long q2), .second, .val (.long q3), .second, .val (.long q4), .second, .val (.long q5), .second, .val (.int p6), .val (.ref b1), .val (.int (p6 &&& (15 : Int32))), .val (.long (own_b p6 (1 : Int32) q1 q5)), .second, .val (.long (own_b p6 (2 : Int32) q2 q5)), .second, .val (.long (own_b p6 (4 : Int32) q3 q5)), .second, .val (.long (own_b p6 (8 : Int32) q4 q5)), .second, .val (.ref b7), .unset, .unset] [])) _
    refine XS.iload X8.here hx rfl (hb hby at_112) rfl ?_
    show Steps p.tables e below (T8.setTop (mkF m 114 #[.val (.long q1), .second, .val (.long q2), .second, .val (.long q3), .second, .val (.long q4), .second, .val (.long q5), .second, .val (.int p6), .val (.ref b1), .val (.int (p6 &&& (15 : Int32))), .val (.long (own_b p6 (1 : Int32) q1 q5)), .second, .val (.long (own_b p6 (2 : Int32) q2 q5)), .second, .val (.long (own_b p6 (4 : Int32) q3 q5)), .second, .val (.long (own_b p6 (8 : Int32) q4 q5)), .second, .val (.ref b7), .unset, .unset] [(.int p6)])) _
    refine XS.iconst X8.here hx rfl (hb hby at_114) ?_
    show Steps p.tables e below (T8.setTop (mkF m 115 #[.val (.long q1), .second, .val (.long q2), .second, .val (.long q3), .second, .val (.long q4), .second, .val (.long q5), .second, .val (.int p6), .val (.ref b1), .val (.int (p6 &&& (15 : Int32))), .val (.long (own_b p6 (1 : Int32) q1 q5)), .second, .val (.long (own_b p6 (2 : Int32) q2 q5)), .second, .val (.long (own_b p6 (4 : Int32) q3 q5)), .second, .val (.long (own_b p6 (8 : Int32) q4 q5)), .second, .val (.ref b7), .unset, .unset] [(.int (4 : Int32)), (.int p6)])) _
    refine XS.iushr X8.here hx rfl (hb hby at_115) rfl ?_
    show Steps p.tables e below (T8.setTop (mkF m 116 #[.val (.long q1), .second, .val (.long q2), .second, .val (.long q3), .second, .val (.long q4), .second, .val (.long q5), .second, .val (.int p6), .val (.ref b1), .val (.int (p6 &&& (15 : Int32))), .val (.long (own_b p6 (1 : Int32) q1 q5)), .second, .val (.long (own_b p6 (2 : Int32) q2 q5)), .second, .val (.long (own_b p6 (4 : Int32) q3 q5)), .second, .val (.long (own_b p6 (8 : Int32) q4 q5)), .second, .val (.ref b7), .unset, .unset] [(.int ((p6.toUInt32 >>> ((4 : Int32) &&& 31).toUInt32).toInt32))])) _
    refine XS.iconst X8.here hx rfl (hb hby at_116) ?_
    show Steps p.tables e below (T8.setTop (mkF m 117 #[.val (.long q1), .second, .val (.long q2), .second, .val (.long q3), .second, .val (.long q4), .second, .val (.long q5), .second, .val (.int p6), .val (.ref b1), .val (.int (p6 &&& (15 : Int32))), .val (.long (own_b p6 (1 : Int32) q1 q5)), .second, .val (.long (own_b p6 (2 : Int32) q2 q5)), .second, .val (.long (own_b p6 (4 : Int32) q3 q5)), .second, .val (.long (own_b p6 (8 : Int32) q4 q5)), .second, .val (.ref b7), .unset, .unset] [(.int (3 : Int32)), (.int ((p6.toUInt32 >>> ((4 : Int32) &&& 31).toUInt32).toInt32))])) _
    refine XS.iand X8.here hx rfl (hb hby at_117) rfl ?_
    show Steps p.tables e below (T8.setTop (mkF m 118 #[.val (.long q1), .second, .val (.long q2), .second, .val (.long q3), .second, .val (.long q4), .second, .val (.long q5), .second, .val (.int p6), .val (.ref b1), .val (.int (p6 &&& (15 : Int32))), .val (.long (own_b p6 (1 : Int32) q1 q5)), .second, .val (.long (own_b p6 (2 : Int32) q2 q5)), .second, .val (.long (own_b p6 (4 : Int32) q3 q5)), .second, .val (.long (own_b p6 (8 : Int32) q4 q5)), .second, .val (.ref b7), .unset, .unset] [(.int (((p6.toUInt32 >>> ((4 : Int32) &&& 31).toUInt32).toInt32) &&& (3 : Int32)))])) _
    rw [P1]
    show Steps p.tables e below (T8.setTop (mkF m 118 #[.val (.long q1), .second, .val (.long q2), .second, .val (.long q3), .second, .val (.long q4), .second, .val (.long q5), .second, .val (.int p6), .val (.ref b1), .val (.int (p6 &&& (15 : Int32))), .val (.long (own_b p6 (1 : Int32) q1 q5)), .second, .val (.long (own_b p6 (2 : Int32) q2 q5)), .second, .val (.long (own_b p6 (4 : Int32) q3 q5)), .second, .val (.long (own_b p6 (8 : Int32) q4 q5)), .second, .val (.ref b7), .unset, .unset] [(.int (0 : Int32))])) _
    refine XS.istore X8.here hx rfl (hb hby at_118) rfl (l' := #[.val (.long q1), .second, .val (.long q2), .second, .val (.long q3), .second, .val (.long q4), .second, .val (.long q5), .second, .val (.int p6), .val (.ref b1), .val (.int (p6 &&& (15 : Int32))), .val (.long (own_b p6 (1 : Int32) q1 q5)), .second, .val (.long (own_b p6 (2 : Int32) q2 q5)), .second, .val (.long (own_b p6 (4 : Int32) q3 q5)), .second, .val (.long (own_b p6 (8 : Int32) q4 q5)), .second, .val (.ref b7), .val (.int (0 : Int32)), .unset]) rfl ?_
    show Steps p.tables e below (T8.setTop (mkF m 120 #[.val (.long q1), .second, .val (.long q2), .second, .val (.long q3), .second, .val (.long q4), .second, .val (.long q5), .second, .val (.int p6), .val (.ref b1), .val (.int (p6 &&& (15 : Int32))), .val (.long (own_b p6 (1 : Int32) q1 q5)), .second, .val (.long (own_b p6 (2 : Int32) q2 q5)), .second, .val (.long (own_b p6 (4 : Int32) q3 q5)), .second, .val (.long (own_b p6 (8 : Int32) q4 q5)), .second, .val (.ref b7), .val (.int (0 : Int32)), .unset] [])) _
    refine XS.iload X8.here hx rfl (hb hby at_120) rfl ?_
    show Steps p.tables e below (T8.setTop (mkF m 122 #[.val (.long q1), .second, .val (.long q2), .second, .val (.long q3), .second, .val (.long q4), .second, .val (.long q5), .second, .val (.int p6), .val (.ref b1), .val (.int (p6 &&& (15 : Int32))), .val (.long (own_b p6 (1 : Int32) q1 q5)), .second, .val (.long (own_b p6 (2 : Int32) q2 q5)), .second, .val (.long (own_b p6 (4 : Int32) q3 q5)), .second, .val (.long (own_b p6 (8 : Int32) q4 q5)), .second, .val (.ref b7), .val (.int (0 : Int32)), .unset] [(.int (0 : Int32))])) _
    refine XS.iconst X8.here hx rfl (hb hby at_122) ?_
    show Steps p.tables e below (T8.setTop (mkF m 123 #[.val (.long q1), .second, .val (.long q2), .second, .val (.long q3), .second, .val (.long q4), .second, .val (.long q5), .second, .val (.int p6), .val (.ref b1), .val (.int (p6 &&& (15 : Int32))), .val (.long (own_b p6 (1 : Int32) q1 q5)), .second, .val (.long (own_b p6 (2 : Int32) q2 q5)), .second, .val (.long (own_b p6 (4 : Int32) q3 q5)), .second, .val (.long (own_b p6 (8 : Int32) q4 q5)), .second, .val (.ref b7), .val (.int (0 : Int32)), .unset] [(.int (1 : Int32)), (.int (0 : Int32))])) _
    refine XS.icmpYes X8.here hx rfl (pc0 := 123) (pc' := 141) rfl (hb hby at_123) rfl (by decide) (by decide) (by decide) ?_
    show Steps p.tables e below (T8.setTop (mkF m 141 #[.val (.long q1), .second, .val (.long q2), .second, .val (.long q3), .second, .val (.long q4), .second, .val (.long q5), .second, .val (.int p6), .val (.ref b1), .val (.int (p6 &&& (15 : Int32))), .val (.long (own_b p6 (1 : Int32) q1 q5)), .second, .val (.long (own_b p6 (2 : Int32) q2 q5)), .second, .val (.long (own_b p6 (4 : Int32) q3 q5)), .second, .val (.long (own_b p6 (8 : Int32) q4 q5)), .second, .val (.ref b7), .val (.int (0 : Int32)), .unset] [])) _
    refine XS.iload X8.here hx rfl (hb hby at_141) rfl ?_
    show Steps p.tables e below (T8.setTop (mkF m 143 #[.val (.long q1), .second, .val (.long q2), .second, .val (.long q3), .second, .val (.long q4), .second, .val (.long q5), .second, .val (.int p6), .val (.ref b1), .val (.int (p6 &&& (15 : Int32))), .val (.long (own_b p6 (1 : Int32) q1 q5)), .second, .val (.long (own_b p6 (2 : Int32) q2 q5)), .second, .val (.long (own_b p6 (4 : Int32) q3 q5)), .second, .val (.long (own_b p6 (8 : Int32) q4 q5)), .second, .val (.ref b7), .val (.int (0 : Int32)), .unset] [(.int (0 : Int32))])) _
    refine XS.iconst X8.here hx rfl (hb hby at_143) ?_
    show Steps p.tables e below (T8.setTop (mkF m 144 #[.val (.long q1), .second, .val (.long q2), .second, .val (.long q3), .second, .val (.long q4), .second, .val (.long q5), .second, .val (.int p6), .val (.ref b1), .val (.int (p6 &&& (15 : Int32))), .val (.long (own_b p6 (1 : Int32) q1 q5)), .second, .val (.long (own_b p6 (2 : Int32) q2 q5)), .second, .val (.long (own_b p6 (4 : Int32) q3 q5)), .second, .val (.long (own_b p6 (8 : Int32) q4 q5)), .second, .val (.ref b7), .val (.int (0 : Int32)), .unset] [(.int (2 : Int32)), (.int (0 : Int32))])) _
    refine XS.icmpYes X8.here hx rfl (pc0 := 144) (pc' := 165) rfl (hb hby at_144) rfl (by decide) (by decide) (by decide) ?_
    show Steps p.tables e below (T8.setTop (mkF m 165 #[.val (.long q1), .second, .val (.long q2), .second, .val (.long q3), .second, .val (.long q4), .second, .val (.long q5), .second, .val (.int p6), .val (.ref b1), .val (.int (p6 &&& (15 : Int32))), .val (.long (own_b p6 (1 : Int32) q1 q5)), .second, .val (.long (own_b p6 (2 : Int32) q2 q5)), .second, .val (.long (own_b p6 (4 : Int32) q3 q5)), .second, .val (.long (own_b p6 (8 : Int32) q4 q5)), .second, .val (.ref b7), .val (.int (0 : Int32)), .unset] [])) _
    refine XS.iload X8.here hx rfl (hb hby at_165) rfl ?_
    show Steps p.tables e below (T8.setTop (mkF m 167 #[.val (.long q1), .second, .val (.long q2), .second, .val (.long q3), .second, .val (.long q4), .second, .val (.long q5), .second, .val (.int p6), .val (.ref b1), .val (.int (p6 &&& (15 : Int32))), .val (.long (own_b p6 (1 : Int32) q1 q5)), .second, .val (.long (own_b p6 (2 : Int32) q2 q5)), .second, .val (.long (own_b p6 (4 : Int32) q3 q5)), .second, .val (.long (own_b p6 (8 : Int32) q4 q5)), .second, .val (.ref b7), .val (.int (0 : Int32)), .unset] [(.int (0 : Int32))])) _
    refine XS.iconst X8.here hx rfl (hb hby at_167) ?_
    show Steps p.tables e below (T8.setTop (mkF m 168 #[.val (.long q1), .second, .val (.long q2), .second, .val (.long q3), .second, .val (.long q4), .second, .val (.long q5), .second, .val (.int p6), .val (.ref b1), .val (.int (p6 &&& (15 : Int32))), .val (.long (own_b p6 (1 : Int32) q1 q5)), .second, .val (.long (own_b p6 (2 : Int32) q2 q5)), .second, .val (.long (own_b p6 (4 : Int32) q3 q5)), .second, .val (.long (own_b p6 (8 : Int32) q4 q5)), .second, .val (.ref b7), .val (.int (0 : Int32)), .unset] [(.int (3 : Int32)), (.int (0 : Int32))])) _
    refine XS.icmpYes X8.here hx rfl (pc0 := 168) (pc' := 179) rfl (hb hby at_168) rfl (by decide) (by decide) (by decide) ?_
    show Steps p.tables e below (T8.setTop (mkF m 179 #[.val (.long q1), .second, .val (.long q2), .second, .val (.long q3), .second, .val (.long q4), .second, .val (.long q5), .second, .val (.int p6), .val (.ref b1), .val (.int (p6 &&& (15 : Int32))), .val (.long (own_b p6 (1 : Int32) q1 q5)), .second, .val (.long (own_b p6 (2 : Int32) q2 q5)), .second, .val (.long (own_b p6 (4 : Int32) q3 q5)), .second, .val (.long (own_b p6 (8 : Int32) q4 q5)), .second, .val (.ref b7), .val (.int (0 : Int32)), .unset] [])) _
    refine XS.iload X8.here hx rfl (hb hby at_179) rfl ?_
    show Steps p.tables e below (T8.setTop (mkF m 181 #[.val (.long q1), .second, .val (.long q2), .second, .val (.long q3), .second, .val (.long q4), .second, .val (.long q5), .second, .val (.int p6), .val (.ref b1), .val (.int (p6 &&& (15 : Int32))), .val (.long (own_b p6 (1 : Int32) q1 q5)), .second, .val (.long (own_b p6 (2 : Int32) q2 q5)), .second, .val (.long (own_b p6 (4 : Int32) q3 q5)), .second, .val (.long (own_b p6 (8 : Int32) q4 q5)), .second, .val (.ref b7), .val (.int (0 : Int32)), .unset] [(.int (p6 &&& (15 : Int32)))])) _
    refine XS.ifNo X8.here hx rfl (hb hby at_181) rfl ((if0 _ _).trans (feq P2).1) ?_
    show Steps p.tables e below (T8.setTop (mkF m 184 #[.val (.long q1), .second, .val (.long q2), .second, .val (.long q3), .second, .val (.long q4), .second, .val (.long q5), .second, .val (.int p6), .val (.ref b1), .val (.int (p6 &&& (15 : Int32))), .val (.long (own_b p6 (1 : Int32) q1 q5)), .second, .val (.long (own_b p6 (2 : Int32) q2 q5)), .second, .val (.long (own_b p6 (4 : Int32) q3 q5)), .second, .val (.long (own_b p6 (8 : Int32) q4 q5)), .second, .val (.ref b7), .val (.int (0 : Int32)), .unset] [])) _
    refine XS.lload X8.here hx rfl (hb hby at_184) rfl ?_
    show Steps p.tables e below (T8.setTop (mkF m 186 #[.val (.long q1), .second, .val (.long q2), .second, .val (.long q3), .second, .val (.long q4), .second, .val (.long q5), .second, .val (.int p6), .val (.ref b1), .val (.int (p6 &&& (15 : Int32))), .val (.long (own_b p6 (1 : Int32) q1 q5)), .second, .val (.long (own_b p6 (2 : Int32) q2 q5)), .second, .val (.long (own_b p6 (4 : Int32) q3 q5)), .second, .val (.long (own_b p6 (8 : Int32) q4 q5)), .second, .val (.ref b7), .val (.int (0 : Int32)), .unset] [(.long q5)])) _
    refine XS.lconst X8.here hx rfl (hb hby at_186) ?_
    show Steps p.tables e below (T8.setTop (mkF m 187 #[.val (.long q1), .second, .val (.long q2), .second, .val (.long q3), .second, .val (.long q4), .second, .val (.long q5), .second, .val (.int p6), .val (.ref b1), .val (.int (p6 &&& (15 : Int32))), .val (.long (own_b p6 (1 : Int32) q1 q5)), .second, .val (.long (own_b p6 (2 : Int32) q2 q5)), .second, .val (.long (own_b p6 (4 : Int32) q3 q5)), .second, .val (.long (own_b p6 (8 : Int32) q4 q5)), .second, .val (.ref b7), .val (.int (0 : Int32)), .unset] [(.long (0 : Int64)), (.long q5)])) _
    refine XS.lcmp X8.here hx rfl (hb hby at_187) rfl ?_
    show Steps p.tables e below (T8.setTop (mkF m 188 #[.val (.long q1), .second, .val (.long q2), .second, .val (.long q3), .second, .val (.long q4), .second, .val (.long q5), .second, .val (.int p6), .val (.ref b1), .val (.int (p6 &&& (15 : Int32))), .val (.long (own_b p6 (1 : Int32) q1 q5)), .second, .val (.long (own_b p6 (2 : Int32) q2 q5)), .second, .val (.long (own_b p6 (4 : Int32) q3 q5)), .second, .val (.long (own_b p6 (8 : Int32) q4 q5)), .second, .val (.ref b7), .val (.int (0 : Int32)), .unset] [(.int (lcmpW q5 (0 : Int64)))])) _
    refine XS.ifYes X8.here hx rfl (pc0 := 188) (pc' := 195) rfl (hb hby at_188) rfl ((if0 _ _).trans (feq P3).2) (by decide) (by decide) ?_
    show Steps p.tables e below (T8.setTop (mkF m 195 #[.val (.long q1), .second, .val (.long q2), .second, .val (.long q3), .second, .val (.long q4), .second, .val (.long q5), .second, .val (.int p6), .val (.ref b1), .val (.int (p6 &&& (15 : Int32))), .val (.long (own_b p6 (1 : Int32) q1 q5)), .second, .val (.long (own_b p6 (2 : Int32) q2 q5)), .second, .val (.long (own_b p6 (4 : Int32) q3 q5)), .second, .val (.long (own_b p6 (8 : Int32) q4 q5)), .second, .val (.ref b7), .val (.int (0 : Int32)), .unset] [])) _
    refine XS.iconst X8.here hx rfl (hb hby at_195) ?_
    show Steps p.tables e below (T8.setTop (mkF m 196 #[.val (.long q1), .second, .val (.long q2), .second, .val (.long q3), .second, .val (.long q4), .second, .val (.long q5), .second, .val (.int p6), .val (.ref b1), .val (.int (p6 &&& (15 : Int32))), .val (.long (own_b p6 (1 : Int32) q1 q5)), .second, .val (.long (own_b p6 (2 : Int32) q2 q5)), .second, .val (.long (own_b p6 (4 : Int32) q3 q5)), .second, .val (.long (own_b p6 (8 : Int32) q4 q5)), .second, .val (.ref b7), .val (.int (0 : Int32)), .unset] [(.int (0 : Int32))])) _
    refine XS.istore X8.here hx rfl (hb hby at_196) rfl (l' := #[.val (.long q1), .second, .val (.long q2), .second, .val (.long q3), .second, .val (.long q4), .second, .val (.long q5), .second, .val (.int p6), .val (.ref b1), .val (.int (p6 &&& (15 : Int32))), .val (.long (own_b p6 (1 : Int32) q1 q5)), .second, .val (.long (own_b p6 (2 : Int32) q2 q5)), .second, .val (.long (own_b p6 (4 : Int32) q3 q5)), .second, .val (.long (own_b p6 (8 : Int32) q4 q5)), .second, .val (.ref b7), .val (.int (0 : Int32)), .val (.int (0 : Int32))]) rfl ?_
    show Steps p.tables e below (T8.setTop (mkF m 198 #[.val (.long q1), .second, .val (.long q2), .second, .val (.long q3), .second, .val (.long q4), .second, .val (.long q5), .second, .val (.int p6), .val (.ref b1), .val (.int (p6 &&& (15 : Int32))), .val (.long (own_b p6 (1 : Int32) q1 q5)), .second, .val (.long (own_b p6 (2 : Int32) q2 q5)), .second, .val (.long (own_b p6 (4 : Int32) q3 q5)), .second, .val (.long (own_b p6 (8 : Int32) q4 q5)), .second, .val (.ref b7), .val (.int (0 : Int32)), .val (.int (0 : Int32))] [])) _
    refine XS.aload X8.here hx rfl (hb hby at_198) rfl rfl ?_
    show Steps p.tables e below (T8.setTop (mkF m 200 #[.val (.long q1), .second, .val (.long q2), .second, .val (.long q3), .second, .val (.long q4), .second, .val (.long q5), .second, .val (.int p6), .val (.ref b1), .val (.int (p6 &&& (15 : Int32))), .val (.long (own_b p6 (1 : Int32) q1 q5)), .second, .val (.long (own_b p6 (2 : Int32) q2 q5)), .second, .val (.long (own_b p6 (4 : Int32) q3 q5)), .second, .val (.long (own_b p6 (8 : Int32) q4 q5)), .second, .val (.ref b7), .val (.int (0 : Int32)), .val (.int (0 : Int32))] [(.ref b1)])) _
    refine XS.aload X8.here hx rfl (hb hby at_200) rfl rfl ?_
    show Steps p.tables e below (T8.setTop (mkF m 202 #[.val (.long q1), .second, .val (.long q2), .second, .val (.long q3), .second, .val (.long q4), .second, .val (.long q5), .second, .val (.int p6), .val (.ref b1), .val (.int (p6 &&& (15 : Int32))), .val (.long (own_b p6 (1 : Int32) q1 q5)), .second, .val (.long (own_b p6 (2 : Int32) q2 q5)), .second, .val (.long (own_b p6 (4 : Int32) q3 q5)), .second, .val (.long (own_b p6 (8 : Int32) q4 q5)), .second, .val (.ref b7), .val (.int (0 : Int32)), .val (.int (0 : Int32))] [(.ref b7), (.ref b1)])) _
    refine st10.trans ?_
    show Steps p.tables e below (T10.setTop (mkF m 205 #[.val (.long q1), .second, .val (.long q2), .second, .val (.long q3), .second, .val (.long q4), .second, .val (.long q5), .second, .val (.int p6), .val (.ref b1), .val (.int (p6 &&& (15 : Int32))), .val (.long (own_b p6 (1 : Int32) q1 q5)), .second, .val (.long (own_b p6 (2 : Int32) q2 q5)), .second, .val (.long (own_b p6 (4 : Int32) q3 q5)), .second, .val (.long (own_b p6 (8 : Int32) q4 q5)), .second, .val (.ref b7), .val (.int (0 : Int32)), .val (.int (0 : Int32))] [(.int (0 : Int32))])) _
    refine XS.iload X10.here hx rfl (hb hby at_205) rfl ?_
    show Steps p.tables e below (T10.setTop (mkF m 207 #[.val (.long q1), .second, .val (.long q2), .second, .val (.long q3), .second, .val (.long q4), .second, .val (.long q5), .second, .val (.int p6), .val (.ref b1), .val (.int (p6 &&& (15 : Int32))), .val (.long (own_b p6 (1 : Int32) q1 q5)), .second, .val (.long (own_b p6 (2 : Int32) q2 q5)), .second, .val (.long (own_b p6 (4 : Int32) q3 q5)), .second, .val (.long (own_b p6 (8 : Int32) q4 q5)), .second, .val (.ref b7), .val (.int (0 : Int32)), .val (.int (0 : Int32))] [(.int (0 : Int32)), (.int (0 : Int32))])) _
    refine XS.icmpNo X10.here hx rfl (hb hby at_207) rfl (by decide) ?_
    show Steps p.tables e below (T10.setTop (mkF m 210 #[.val (.long q1), .second, .val (.long q2), .second, .val (.long q3), .second, .val (.long q4), .second, .val (.long q5), .second, .val (.int p6), .val (.ref b1), .val (.int (p6 &&& (15 : Int32))), .val (.long (own_b p6 (1 : Int32) q1 q5)), .second, .val (.long (own_b p6 (2 : Int32) q2 q5)), .second, .val (.long (own_b p6 (4 : Int32) q3 q5)), .second, .val (.long (own_b p6 (8 : Int32) q4 q5)), .second, .val (.ref b7), .val (.int (0 : Int32)), .val (.int (0 : Int32))] [])) _
    refine XS.aload X10.here hx rfl (hb hby at_210) rfl rfl ?_
    show Steps p.tables e below (T10.setTop (mkF m 212 #[.val (.long q1), .second, .val (.long q2), .second, .val (.long q3), .second, .val (.long q4), .second, .val (.long q5), .second, .val (.int p6), .val (.ref b1), .val (.int (p6 &&& (15 : Int32))), .val (.long (own_b p6 (1 : Int32) q1 q5)), .second, .val (.long (own_b p6 (2 : Int32) q2 q5)), .second, .val (.long (own_b p6 (4 : Int32) q3 q5)), .second, .val (.long (own_b p6 (8 : Int32) q4 q5)), .second, .val (.ref b7), .val (.int (0 : Int32)), .val (.int (0 : Int32))] [(.ref b7)])) _
    refine XS.aload X10.here hx rfl (hb hby at_212) rfl rfl ?_
    show Steps p.tables e below (T10.setTop (mkF m 214 #[.val (.long q1), .second, .val (.long q2), .second, .val (.long q3), .second, .val (.long q4), .second, .val (.long q5), .second, .val (.int p6), .val (.ref b1), .val (.int (p6 &&& (15 : Int32))), .val (.long (own_b p6 (1 : Int32) q1 q5)), .second, .val (.long (own_b p6 (2 : Int32) q2 q5)), .second, .val (.long (own_b p6 (4 : Int32) q3 q5)), .second, .val (.long (own_b p6 (8 : Int32) q4 q5)), .second, .val (.ref b7), .val (.int (0 : Int32)), .val (.int (0 : Int32))] [(.ref b1), (.ref b7)])) _
    refine st11.trans ?_
    show Steps p.tables e below (T11.setTop (mkF m 217 #[.val (.long q1), .second, .val (.long q2), .second, .val (.long q3), .second, .val (.long q4), .second, .val (.long q5), .second, .val (.int p6), .val (.ref b1), .val (.int (p6 &&& (15 : Int32))), .val (.long (own_b p6 (1 : Int32) q1 q5)), .second, .val (.long (own_b p6 (2 : Int32) q2 q5)), .second, .val (.long (own_b p6 (4 : Int32) q3 q5)), .second, .val (.long (own_b p6 (8 : Int32) q4 q5)), .second, .val (.ref b7), .val (.int (0 : Int32)), .val (.int (0 : Int32))] [(.int (0 : Int32))])) _
    refine XS.iload X11.here hx rfl (hb hby at_217) rfl ?_
    show Steps p.tables e below (T11.setTop (mkF m 219 #[.val (.long q1), .second, .val (.long q2), .second, .val (.long q3), .second, .val (.long q4), .second, .val (.long q5), .second, .val (.int p6), .val (.ref b1), .val (.int (p6 &&& (15 : Int32))), .val (.long (own_b p6 (1 : Int32) q1 q5)), .second, .val (.long (own_b p6 (2 : Int32) q2 q5)), .second, .val (.long (own_b p6 (4 : Int32) q3 q5)), .second, .val (.long (own_b p6 (8 : Int32) q4 q5)), .second, .val (.ref b7), .val (.int (0 : Int32)), .val (.int (0 : Int32))] [(.int (0 : Int32)), (.int (0 : Int32))])) _
    refine XS.icmpNo X11.here hx rfl (hb hby at_219) rfl (by decide) ?_
    show Steps p.tables e below (T11.setTop (mkF m 222 #[.val (.long q1), .second, .val (.long q2), .second, .val (.long q3), .second, .val (.long q4), .second, .val (.long q5), .second, .val (.int p6), .val (.ref b1), .val (.int (p6 &&& (15 : Int32))), .val (.long (own_b p6 (1 : Int32) q1 q5)), .second, .val (.long (own_b p6 (2 : Int32) q2 q5)), .second, .val (.long (own_b p6 (4 : Int32) q3 q5)), .second, .val (.long (own_b p6 (8 : Int32) q4 q5)), .second, .val (.ref b7), .val (.int (0 : Int32)), .val (.int (0 : Int32))] [])) _
    refine XS.iconst X11.here hx rfl (hb hby at_222) ?_
    show Steps p.tables e below (T11.setTop (mkF m 223 #[.val (.long q1), .second, .val (.long q2), .second, .val (.long q3), .second, .val (.long q4), .second, .val (.long q5), .second, .val (.int p6), .val (.ref b1), .val (.int (p6 &&& (15 : Int32))), .val (.long (own_b p6 (1 : Int32) q1 q5)), .second, .val (.long (own_b p6 (2 : Int32) q2 q5)), .second, .val (.long (own_b p6 (4 : Int32) q3 q5)), .second, .val (.long (own_b p6 (8 : Int32) q4 q5)), .second, .val (.ref b7), .val (.int (0 : Int32)), .val (.int (0 : Int32))] [(.int (1 : Int32))])) _
    refine XS.goto X11.here hx rfl (pc0 := 223) (pc' := 227) rfl (hb hby at_223) (by decide) (by decide) ?_
    show Steps p.tables e below (T11.setTop (mkF m 227 #[.val (.long q1), .second, .val (.long q2), .second, .val (.long q3), .second, .val (.long q4), .second, .val (.long q5), .second, .val (.int p6), .val (.ref b1), .val (.int (p6 &&& (15 : Int32))), .val (.long (own_b p6 (1 : Int32) q1 q5)), .second, .val (.long (own_b p6 (2 : Int32) q2 q5)), .second, .val (.long (own_b p6 (4 : Int32) q3 q5)), .second, .val (.long (own_b p6 (8 : Int32) q4 q5)), .second, .val (.ref b7), .val (.int (0 : Int32)), .val (.int (0 : Int32))] [(.int (1 : Int32))])) _
    exact retN X11 hx (t := .boolean) Bd.returns (by simp) (hb hby at_227) hr
  · show own_Q1 n0 _ T11.heap _
    rw [e11]
    exact ⟨rfl, N11⟩
set_option maxRecDepth 65536 in
set_option maxHeartbeats 40000000 in
theorem rm3_4 (l : Launch) (Z : State) (a0 : Array Value) (hw : ∀ d ∈ tables_1, d.before a0 Z = true) (r1 : Addr) (r2 : Addr) (q3 : Int64) (q4 : Int64) (q5 : Int64) (q6 : Int64) (q7 : Int64) (q8 : Int64) (q9 : Int64) (q10 : Int64) (h0 : Heap) (n0 : Nat) (O0 : Old Z n0 h0) (P1 : Exa Z h0 r2 "com/example/bide/bide/QueueCounts") (P2 : Fld Z h0 r1 "com/example/bide/bide/QueueCounts" "pending" "J" (.long q3)) (P3 : Fld Z h0 r2 "com/example/bide/bide/QueueCounts" "pending" "J" (.long q4)) (P4 : (lcmpW q3 q4) = (0 : Int32)) (P5 : Fld Z h0 r1 "com/example/bide/bide/QueueCounts" "due" "J" (.long q5)) (P6 : Fld Z h0 r2 "com/example/bide/bide/QueueCounts" "due" "J" (.long q6)) (P7 : (lcmpW q5 q6) = (0 : Int32)) (P8 : Fld Z h0 r1 "com/example/bide/bide/QueueCounts" "leased" "J" (.long q7)) (P9 : Fld Z h0 r2 "com/example/bide/bide/QueueCounts" "leased" "J" (.long q8)) (P10 : (lcmpW q7 q8) = (0 : Int32)) (P11 : Fld Z h0 r1 "com/example/bide/bide/QueueCounts" "dead" "J" (.long q9)) (P12 : Fld Z h0 r2 "com/example/bide/bide/QueueCounts" "dead" "J" (.long q10)) (P13 : ¬ ((lcmpW q9 q10) = (0 : Int32))) :
    MetFree l (⟨"com/example/bide/bide/QueueCounts", "equals", "(Ljava/lang/Object;)Z"⟩ : MethodName) (head1 [Jvm.Cond.code (⟨"com/example/bide/bide/QueueCounts", "equals", "(Ljava/lang/Object;)Z"⟩ : MethodName) prog_3_method_6_code 3 (some .boolean)] ({ frames := 0, cells := 0, slots := 0, locals := 0 } : Room)) (fun a U => a = #[(.ref r1), (.ref r2)] ∧ Z.Warmed39 U.vm ∧ U.heap = h0) (fun _ _ _ _ _ => True) (fun _ U o U' => ∃ v L, o = .returned v ∧ own_QP (some (.int (0 : Int32))) n0 h0 v U'.heap L ∧ FrameEnd U o U' L ({ frames := 0, cells := 0, slots := 0, locals := 0 } : Room).cells ({ frames := 0, cells := 0, slots := 0, locals := 0 } : Room).slots) := by
  refine MetFree.of_bodySF (plainFor_of_name pn_0) hisR ?_
  intro p e s m args below meth c s₁ Bd hml0 hP hK
  obtain ⟨rfl, hZ, hh⟩ := hP
  have hx := Bd.exec
  have hby := Bd.bytes
  have hml : c.maxLocals = 3 := hml0
  have hown : s.vm.findClass "com/example/bide/bide/QueueCounts" = some m.cls := findClass_of_methodNamed Bd.named
  have hnm := (name_of_methodNamed Bd.named Bd.method).1
  have X0 : Stand p l e ({ frames := 0, cells := 0, slots := 0, locals := 0 } : Room) s m #[(.ref r1), (.ref r2)] below meth c s₁ [] 0 0 := Stand.of_body Bd
  have e0 : s₁.heap = h0 := by rw [← hh, Bd.state]; rfl
  have N0 := Fr.nil n0
  have pre0 : ∀ t, Steps p.tables e below (s₁.setTop (mkF m 0 #[.val (.ref r1), .val (.ref r2), .unset] [])) t → Steps p.tables e below (s₁.setTop (entryFrame m #[(.ref r1), (.ref r2)] 3)) t := fun t k => castTop (ef_3_RR m r1 r2) k
  obtain ⟨T1, X1, e1, st1⟩ := instY X0 hx hZ hown (hw _ (List.mem_of_getElem? (i := 22) rfl)) e0 (Ins.self P1) (g := (mkF m 1 #[.val (.ref r1), .val (.ref r2), .unset] [(.ref r2)])) rfl rfl (hb hby d3_1)
  obtain ⟨T2, X2, e2, st2⟩ := castY X1 hx hZ hown (hw _ (List.mem_of_getElem? (i := 22) rfl)) e1 (Ins.self P1) (g := (mkF m 10 #[.val (.ref r1), .val (.ref r2), .unset] [(.ref r2)])) rfl rfl (hb hby d3_10)
  obtain ⟨T3, X3, e3, st3⟩ := getF X2 hx hZ hown (host := "") (Or.inl (hw _ (List.mem_of_getElem? (i := 9) rfl))) Via.refl e2 P2 (g := (mkF m 15 #[.val (.ref r1), .val (.ref r2), .val (.ref r2)] [(.ref r1)])) rfl rfl (hb hby d3_15)
  obtain ⟨T4, X4, e4, st4⟩ := getF X3 hx hZ hown (host := "") (Or.inl (hw _ (List.mem_of_getElem? (i := 9) rfl))) Via.refl e3 P3 (g := (mkF m 19 #[.val (.ref r1), .val (.ref r2), .val (.ref r2)] [(.ref r2), (.long q3)])) rfl rfl (hb hby d3_19)
  obtain ⟨T5, X5, e5, st5⟩ := getF X4 hx hZ hown (host := "") (Or.inl (hw _ (List.mem_of_getElem? (i := 11) rfl))) Via.refl e4 P5 (g := (mkF m 27 #[.val (.ref r1), .val (.ref r2), .val (.ref r2)] [(.ref r1)])) rfl rfl (hb hby d3_27)
  obtain ⟨T6, X6, e6, st6⟩ := getF X5 hx hZ hown (host := "") (Or.inl (hw _ (List.mem_of_getElem? (i := 11) rfl))) Via.refl e5 P6 (g := (mkF m 31 #[.val (.ref r1), .val (.ref r2), .val (.ref r2)] [(.ref r2), (.long q5)])) rfl rfl (hb hby d3_31)
  obtain ⟨T7, X7, e7, st7⟩ := getF X6 hx hZ hown (host := "") (Or.inl (hw _ (List.mem_of_getElem? (i := 13) rfl))) Via.refl e6 P8 (g := (mkF m 39 #[.val (.ref r1), .val (.ref r2), .val (.ref r2)] [(.ref r1)])) rfl rfl (hb hby d3_39)
  obtain ⟨T8, X8, e8, st8⟩ := getF X7 hx hZ hown (host := "") (Or.inl (hw _ (List.mem_of_getElem? (i := 13) rfl))) Via.refl e7 P9 (g := (mkF m 43 #[.val (.ref r1), .val (.ref r2), .val (.ref r2)] [(.ref r2), (.long q7)])) rfl rfl (hb hby d3_43)
  obtain ⟨T9, X9, e9, st9⟩ := getF X8 hx hZ hown (host := "") (Or.inl (hw _ (List.mem_of_getElem? (i := 15) rfl))) Via.refl e8 P11 (g := (mkF m 51 #[.val (.ref r1), .val (.ref r2), .val (.ref r2)] [(.ref r1)])) rfl rfl (hb hby d3_51)
  obtain ⟨T10, X10, e10, st10⟩ := getF X9 hx hZ hown (host := "") (Or.inl (hw _ (List.mem_of_getElem? (i := 15) rfl))) Via.refl e9 P12 (g := (mkF m 55 #[.val (.ref r1), .val (.ref r2), .val (.ref r2)] [(.ref r2), (.long q9)])) rfl rfl (hb hby d3_55)
  obtain ⟨fs, hr, hrun, hended, hW, hsame⟩ := X10.leave (v := (some (.int (0 : Int32)))) (fun h => by rw [Bd.returns] at h; cases h)
  refine ⟨_, _, pre0 _ ?_, hrun, hended, _, _, rfl, ?_, ⟨_, rfl⟩, hW, hsame.mono (by decide) (by decide)⟩
  · show Steps p.tables e below (s₁.setTop (mkF m 0 #[.val (.ref r1), .val (.ref r2), .unset] [])) _
    refine XS.aloadN X0.here hx rfl (hb hby d3_0) rfl rfl ?_
    show Steps p.tables e below (s₁.setTop (mkF m 1 #[.val (.ref r1), .val (.ref r2), .unset] [(.ref r2)])) _
    refine st1 _ ?_
    show Steps p.tables e below (T1.setTop (mkF m 4 #[.val (.ref r1), .val (.ref r2), .unset] [(.int (1 : Int32))])) _
    refine XS.ifYes X1.here hx rfl (pc0 := 4) (pc' := 9) rfl (hb hby d3_4) rfl (by decide) (by decide) (by decide) ?_
    show Steps p.tables e below (T1.setTop (mkF m 9 #[.val (.ref r1), .val (.ref r2), .unset] [])) _
    refine XS.aloadN X1.here hx rfl (hb hby d3_9) rfl rfl ?_
    show Steps p.tables e below (T1.setTop (mkF m 10 #[.val (.ref r1), .val (.ref r2), .unset] [(.ref r2)])) _
    refine st2 _ ?_
    show Steps p.tables e below (T2.setTop (mkF m 13 #[.val (.ref r1), .val (.ref r2), .unset] [(.ref r2)])) _
    refine XS.astoreN X2.here hx rfl (hb hby d3_13) rfl rfl (l' := #[.val (.ref r1), .val (.ref r2), .val (.ref r2)]) rfl ?_
    show Steps p.tables e below (T2.setTop (mkF m 14 #[.val (.ref r1), .val (.ref r2), .val (.ref r2)] [])) _
    refine XS.aloadN X2.here hx rfl (hb hby d3_14) rfl rfl ?_
    show Steps p.tables e below (T2.setTop (mkF m 15 #[.val (.ref r1), .val (.ref r2), .val (.ref r2)] [(.ref r1)])) _
    refine st3 _ ?_
    show Steps p.tables e below (T3.setTop (mkF m 18 #[.val (.ref r1), .val (.ref r2), .val (.ref r2)] [(.long q3)])) _
    refine XS.aloadN X3.here hx rfl (hb hby d3_18) rfl rfl ?_
    show Steps p.tables e below (T3.setTop (mkF m 19 #[.val (.ref r1), .val (.ref r2), .val (.ref r2)] [(.ref r2), (.long q3)])) _
    refine st4 _ ?_
    show Steps p.tables e below (T4.setTop (mkF m 22 #[.val (.ref r1), .val (.ref r2), .val (.ref r2)] [(.long q4), (.long q3)])) _
    refine XS.lcmp X4.here hx rfl (hb hby d3_22) rfl ?_
    show Steps p.tables e below (T4.setTop (mkF m 23 #[.val (.ref r1), .val (.ref r2), .val (.ref r2)] [(.int (lcmpW q3 q4))])) _
    refine XS.ifNo X4.here hx rfl (hb hby d3_23) rfl ((if0 _ _).trans (teq P4).2) ?_
    show Steps p.tables e below (T4.setTop (mkF m 26 #[.val (.ref r1), .val (.ref r2), .val (.ref r2)] [])) _
    refine XS.aloadN X4.here hx rfl (hb hby d3_26) rfl rfl ?_
    show Steps p.tables e below (T4.setTop (mkF m 27 #[.val (.ref r1), .val (.ref r2), .val (.ref r2)] [(.ref r1)])) _
    refine st5 _ ?_
    show Steps p.tables e below (T5.setTop (mkF m 30 #[.val (.ref r1), .val (.ref r2), .val (.ref r2)] [(.long q5)])) _
    refine XS.aloadN X5.here hx rfl (hb hby d3_30) rfl rfl ?_
    show Steps p.tables e below (T5.setTop (mkF m 31 #[.val (.ref r1), .val (.ref r2), .val (.ref r2)] [(.ref r2), (.long q5)])) _
    refine st6 _ ?_
    show Steps p.tables e below (T6.setTop (mkF m 34 #[.val (.ref r1), .val (.ref r2), .val (.ref r2)] [(.long q6), (.long q5)])) _
    refine XS.lcmp X6.here hx rfl (hb hby d3_34) rfl ?_
    show Steps p.tables e below (T6.setTop (mkF m 35 #[.val (.ref r1), .val (.ref r2), .val (.ref r2)] [(.int (lcmpW q5 q6))])) _
    refine XS.ifNo X6.here hx rfl (hb hby d3_35) rfl ((if0 _ _).trans (teq P7).2) ?_
    show Steps p.tables e below (T6.setTop (mkF m 38 #[.val (.ref r1), .val (.ref r2), .val (.ref r2)] [])) _
    refine XS.aloadN X6.here hx rfl (hb hby d3_38) rfl rfl ?_
    show Steps p.tables e below (T6.setTop (mkF m 39 #[.val (.ref r1), .val (.ref r2), .val (.ref r2)] [(.ref r1)])) _
    refine st7 _ ?_
    show Steps p.tables e below (T7.setTop (mkF m 42 #[.val (.ref r1), .val (.ref r2), .val (.ref r2)] [(.long q7)])) _
    refine XS.aloadN X7.here hx rfl (hb hby d3_42) rfl rfl ?_
    show Steps p.tables e below (T7.setTop (mkF m 43 #[.val (.ref r1), .val (.ref r2), .val (.ref r2)] [(.ref r2), (.long q7)])) _
    refine st8 _ ?_
    show Steps p.tables e below (T8.setTop (mkF m 46 #[.val (.ref r1), .val (.ref r2), .val (.ref r2)] [(.long q8), (.long q7)])) _
    refine XS.lcmp X8.here hx rfl (hb hby d3_46) rfl ?_
    show Steps p.tables e below (T8.setTop (mkF m 47 #[.val (.ref r1), .val (.ref r2), .val (.ref r2)] [(.int (lcmpW q7 q8))])) _
    refine XS.ifNo X8.here hx rfl (hb hby d3_47) rfl ((if0 _ _).trans (teq P10).2) ?_
    show Steps p.tables e below (T8.setTop (mkF m 50 #[.val (.ref r1), .val (.ref r2), .val (.ref r2)] [])) _
    refine XS.aloadN X8.here hx rfl (hb hby d3_50) rfl rfl ?_
    show Steps p.tables e below (T8.setTop (mkF m 51 #[.val (.ref r1), .val (.ref r2), .val (.ref r2)] [(.ref r1)])) _
    refine st9 _ ?_
    show Steps p.tables e below (T9.setTop (mkF m 54 #[.val (.ref r1), .val (.ref r2), .val (.ref r2)] [(.long q9)])) _
    refine XS.aloadN X9.here hx rfl (hb hby d3_54) rfl rfl ?_
    show Steps p.tables e below (T9.setTop (mkF m 55 #[.val (.ref r1), .val (.ref r2), .val (.ref r2)] [(.ref r2), (.long q9)])) _
    refine st10 _ ?_
    show Steps p.tables e below (T10.setTop (mkF m 58 #[.val (.ref r1), .val (.ref r2), .val (.ref r2)] [(.long q10), (.long q9)])) _
    refine XS.lcmp X10.here hx rfl (hb hby d3_58) rfl ?_
    show Steps p.tables e below (T10.setTop (mkF m 59 #[.val (.ref r1), .val (.ref r2), .val (.ref r2)] [(.int (lcmpW q9 q10))])) _
    refine XS.ifYes X10.here hx rfl (pc0 := 59) (pc' := 66) rfl (hb hby d3_59) rfl ((if0 _ _).trans (feq P13).2) (by decide) (by decide) ?_
    show Steps p.tables e below (T10.setTop (mkF m 66 #[.val (.ref r1), .val (.ref r2), .val (.ref r2)] [])) _
    refine XS.iconst X10.here hx rfl (hb hby d3_66) ?_
    show Steps p.tables e below (T10.setTop (mkF m 67 #[.val (.ref r1), .val (.ref r2), .val (.ref r2)] [(.int (0 : Int32))])) _
    exact retN X10 hx (t := .boolean) Bd.returns (by simp) (hb hby d3_67) hr
  · show own_QP (some (.int (0 : Int32))) n0 h0 _ T10.heap _
    rw [e10]
    exact ⟨rfl, N0, rfl⟩
set_option maxRecDepth 65536 in
set_option maxHeartbeats 40000000 in
theorem law_5 (l : Launch) (Z : State) (a0 : Array Value) (hw : ∀ d ∈ tables_1, d.before a0 Z = true) (ws : List Jvm.Cond) (q1 : Int64) (q2 : Int64) (q3 : Int64) (q4 : Int64) (q5 : Int64) (p6 : Int32) (h0 : Heap) (n0 : Nat) (O0 : Old Z n0 h0) (P1 : (((p6.toUInt32 >>> ((4 : Int32) &&& 31).toUInt32).toInt32) &&& (3 : Int32)) = (0 : Int32)) (P2 : ¬ ((p6 &&& (15 : Int32)) = (0 : Int32))) (P3 : ¬ ((lcmpW q5 (0 : Int64)) = (0 : Int32))) (P4 : (lcmpW q1 (own_b p6 (1 : Int32) q1 q5)) = (0 : Int32)) (P5 : (lcmpW q2 (own_b p6 (2 : Int32) q2 q5)) = (0 : Int32)) (P6 : (lcmpW q3 (own_b p6 (4 : Int32) q3 q5)) = (0 : Int32)) (P7 : ¬ ((lcmpW q4 (own_b p6 (8 : Int32) q4 q5)) = (0 : Int32))) (P8 : (lcmpW (own_b p6 (1 : Int32) q1 q5) q1) = (0 : Int32)) (P9 : (lcmpW (own_b p6 (2 : Int32) q2 q5) q2) = (0 : Int32)) (P10 : (lcmpW (own_b p6 (4 : Int32) q3 q5) q3) = (0 : Int32)) (P11 : ¬ ((lcmpW (own_b p6 (8 : Int32) q4 q5) q4) = (0 : Int32))) :
    MetFree l x (head1 (Jvm.Cond.code x code maxLocals ret :: ws) room_1) (fun a U => a = #[(.long q1), (.long q2), (.long q3), (.long q4), (.long q5), (.int p6)] ∧ Z.Warmed39 U.vm ∧ U.heap = h0) (fun _ _ _ _ _ => True) (fun _ U o U' => ∃ v L, o = .returned v ∧ own_Q1 n0 v U'.heap L ∧ FrameEnd U o U' L room_1.cells room_1.slots) := by
  refine MetFree.of_bodySF (plainFor_of_name pn_5) hisR ?_
  intro p e s m args below meth c s₁ Bd hml0 hP hK
  obtain ⟨rfl, hZ, hh⟩ := hP
  have hx := Bd.exec
  have hby := Bd.bytes
  have hml : c.maxLocals = 24 := hml0
  have hown : s.vm.findClass "com/example/bide/bide/QueueCountsEqualsPinLaw" = some m.cls := findClass_of_methodNamed Bd.named
  have hnm := (name_of_methodNamed Bd.named Bd.method).1
  have X0 : Stand p l e room_1 s m #[(.long q1), (.long q2), (.long q3), (.long q4), (.long q5), (.int p6)] below meth c s₁ [] 0 0 := Stand.of_body Bd
  have e0 : s₁.heap = h0 := by rw [← hh, Bd.state]; rfl
  have N0 := Fr.nil n0
  have pre0 : ∀ t, Steps p.tables e below (s₁.setTop (mkF m 0 #[.val (.long q1), .second, .val (.long q2), .second, .val (.long q3), .second, .val (.long q4), .second, .val (.long q5), .second, .val (.int p6), .unset, .unset, .unset, .unset, .unset, .unset, .unset, .unset, .unset, .unset, .unset, .unset, .unset] [])) t → Steps p.tables e below (s₁.setTop (entryFrame m #[(.long q1), (.long q2), (.long q3), (.long q4), (.long q5), (.int p6)] maxLocals)) t := fun t k => castTop (ef_0_JJJJJI m q1 q2 q3 q4 q5 p6) k
  obtain ⟨T1, h1, X1, e1, E1, A1, D1, -, st1⟩ := newO X0 hx hZ hown (hw _ (List.mem_of_getElem? (i := 0) rfl)) (hw _ (List.mem_of_getElem? (i := 1) rfl)) (hw _ (List.mem_of_getElem? (i := 2) rfl)) e0 (g := (mkF m 0 #[.val (.long q1), .second, .val (.long q2), .second, .val (.long q3), .second, .val (.long q4), .second, .val (.long q5), .second, .val (.int p6), .unset, .unset, .unset, .unset, .unset, .unset, .unset, .unset, .unset, .unset, .unset, .unset, .unset] [])) rfl (hb hby at_0) (by decide) (by decide)
  obtain ⟨b1, gq1⟩ : ∃ z, z = h0.size := ⟨_, rfl⟩
  rw [← gq1] at A1 D1 st1
  have g_b1 : n0 ≤ b1 := Nat.le_trans ((O0.1 ▸ O0.2.1) : n0 ≤ h0.size) (Nat.le_of_eq gq1.symm)
  have sz_b1 : h0.size ≤ b1 := Nat.le_trans (Keep.refl h0 []).1 (Nat.le_of_eq gq1.symm)
  have KK1 : Keep h0 h1 [] := (Keep.refl h0 []).ext E1
  have O1 := O0.ext E1
  have F_pending_b1 : Fld Z h1 b1 "com/example/bide/bide/QueueCounts" "pending" "J" (.long (0 : Int64)) := D1 (Or.inr (hw _ (List.mem_of_getElem? (i := 10) rfl))) (ty := .long) (by decide)
  have F_due_b1 : Fld Z h1 b1 "com/example/bide/bide/QueueCounts" "due" "J" (.long (0 : Int64)) := D1 (Or.inr (hw _ (List.mem_of_getElem? (i := 12) rfl))) (ty := .long) (by decide)
  have F_leased_b1 : Fld Z h1 b1 "com/example/bide/bide/QueueCounts" "leased" "J" (.long (0 : Int64)) := D1 (Or.inr (hw _ (List.mem_of_getElem? (i := 14) rfl))) (ty := .long) (by decide)
  have F_dead_b1 : Fld Z h1 b1 "com/example/bide/bide/QueueCounts" "dead" "J" (.long (0 : Int64)) := D1 (Or.inr (hw _ (List.mem_of_getElem? (i := 16) rfl))) (ty := .long) (by decide)
  obtain ⟨_, _, ⟨T2, L2, k2, n2⟩, -, X2, ⟨Lc2, hQ2, l2, y2, z2⟩, st2⟩ := X1.specialBack hx (y := (⟨"com/example/bide/bide/QueueCounts", "<init>", "(JJJJ)V"⟩ : MethodName)) rfl hown (mvT hZ (hw _ (List.mem_of_getElem? (i := 3) rfl))) (mvT hZ (hw _ (List.mem_of_getElem? (i := 4) rfl))) (mvT hZ (hw _ (List.mem_of_getElem? (i := 5) rfl))) (by decide) (backOf (W := 1) (rm1_0 l Z a0 hw b1 q1 q2 q3 q4 h1 n0 O1 A1 F_pending_b1 F_due_b1 F_leased_b1 F_dead_b1 g_b1) hZ (hw _ (List.mem_of_getElem? (i := 5) rfl)) (hw _ (List.mem_of_getElem? (i := 2) rfl)) (by decide) (by decide)) (g := (mkF m 10 #[.val (.long q1), .second, .val (.long q2), .second, .val (.long q3), .second, .val (.long q4), .second, .val (.long q5), .second, .val (.int p6), .unset, .unset, .unset, .unset, .unset, .unset, .unset, .unset, .unset, .unset, .unset, .unset, .unset] [(.long q4), (.long q3), (.long q2), (.long q1), (.ref b1), (.ref b1)])) rfl (by rw [hml]; rfl) (Steps.refl _) (a := b1) (argsL := [(.long q1), (.long q2), (.long q3), (.long q4)]) (rest := [(.ref b1)]) (lenOf pd_2 rfl) rfl (by show 2 * 0 + _ ≤ _; exact Nat.le_of_eq rfl) (hb hby at_10) (fun _ _ => ⟨rfl, e1, (by decide : 1 + 0 ≤ _), (by decide : 4 + 0 ≤ _)⟩)
  dsimp only [Pt.U, Pt.locs, Pt.cells, Pt.slots] at X2 l2 y2 z2 st2 hQ2
  subst l2 y2 z2
  obtain ⟨rfl, N2q, K2, f2_0, f2_1, f2_2, f2_3⟩ := hQ2
  have KK2 : Keep h0 T2.heap [] := KK1.trans K2 (allS (Or.inr sz_b1) all0)
  have O2 := O1.keep K2 (allS g_b1 all0)
  have N2 := Fr.app N0 N2q
  have dm3 : ∀ target, Steps p.tables e below (T2.setTop (mkF m 37 #[.val (.long q1), .second, .val (.long q2), .second, .val (.long q3), .second, .val (.long q4), .second, .val (.long q5), .second, .val (.int p6), .val (.ref b1), .val (.int (p6 &&& (15 : Int32))), .unset, .unset, .unset, .unset, .unset, .unset, .unset, .unset, .unset, .unset, .unset] [(.long (own_b p6 (1 : Int32) q1 q5))])) target → Steps p.tables e below (T2.setTop (mkF m 26 #[.val (.long q1), .second, .val (.long q2), .second, .val (.long q3), .second, .val (.long q4), .second, .val (.long q5), .second, .val (.int p6), .val (.ref b1), .val (.int (p6 &&& (15 : Int32))), .unset, .unset, .unset, .unset, .unset, .unset, .unset, .unset, .unset, .unset, .unset] [(.int ((p6 &&& (15 : Int32)) &&& (1 : Int32)))])) target := by
    intro target kt
    by_cases hdb : ((p6 &&& (15 : Int32)) &&& (1 : Int32)) = (0 : Int32)
    · rw [own_b_pos hdb] at kt
      show Steps p.tables e below (T2.setTop (mkF m 26 #[.val (.long q1), .second, .val (.long q2), .second, .val (.long q3), .second, .val (.long q4), .second, .val (.long q5), .second, .val (.int p6), .val (.ref b1), .val (.int (p6 &&& (15 : Int32))), .unset, .unset, .unset, .unset, .unset, .unset, .unset, .unset, .unset, .unset, .unset] [(.int ((p6 &&& (15 : Int32)) &&& (1 : Int32)))])) _
      refine XS.ifYes X2.here hx rfl (pc0 := 26) (pc' := 36) rfl (hb hby at_26) rfl ((if0 _ _).trans (teq hdb).1) (by decide) (by decide) ?_
      show Steps p.tables e below (T2.setTop (mkF m 36 #[.val (.long q1), .second, .val (.long q2), .second, .val (.long q3), .second, .val (.long q4), .second, .val (.long q5), .second, .val (.int p6), .val (.ref b1), .val (.int (p6 &&& (15 : Int32))), .unset, .unset, .unset, .unset, .unset, .unset, .unset, .unset, .unset, .unset, .unset] [])) _
      refine XS.lloadN X2.here hx rfl (hb hby at_36) rfl ?_
      exact kt
    · rw [own_b_neg hdb] at kt
      show Steps p.tables e below (T2.setTop (mkF m 26 #[.val (.long q1), .second, .val (.long q2), .second, .val (.long q3), .second, .val (.long q4), .second, .val (.long q5), .second, .val (.int p6), .val (.ref b1), .val (.int (p6 &&& (15 : Int32))), .unset, .unset, .unset, .unset, .unset, .unset, .unset, .unset, .unset, .unset, .unset] [(.int ((p6 &&& (15 : Int32)) &&& (1 : Int32)))])) _
      refine XS.ifNo X2.here hx rfl (hb hby at_26) rfl ((if0 _ _).trans (feq hdb).1) ?_
      show Steps p.tables e below (T2.setTop (mkF m 29 #[.val (.long q1), .second, .val (.long q2), .second, .val (.long q3), .second, .val (.long q4), .second, .val (.long q5), .second, .val (.int p6), .val (.ref b1), .val (.int (p6 &&& (15 : Int32))), .unset, .unset, .unset, .unset, .unset, .unset, .unset, .unset, .unset, .unset, .unset] [])) _
      refine XS.lloadN X2.here hx rfl (hb hby at_29) rfl ?_
      show Steps p.tables e below (T2.setTop (mkF m 30 #[.val (.long q1), .second, .val (.long q2), .second, .val (.long q3), .second, .val (.long q4), .second, .val (.long q5), .second, .val (.int p6), .val (.ref b1), .val (.int (p6 &&& (15 : Int32))), .unset, .unset, .unset, .unset, .unset, .unset, .unset, .unset, .unset, .unset, .unset] [(.long q1)])) _
      refine XS.lload X2.here hx rfl (hb hby at_30) rfl ?_
      show Steps p.tables e below (T2.setTop (mkF m 32 #[.val (.long q1), .second, .val (.long q2), .second, .val (.long q3), .second, .val (.long q4), .second, .val (.long q5), .second, .val (.int p6), .val (.ref b1), .val (.int (p6 &&& (15 : Int32))), .unset, .unset, .unset, .unset, .unset, .unset, .unset, .unset, .unset, .unset, .unset] [(.long q5), (.long q1)])) _
      refine XS.ladd X2.here hx rfl (hb hby at_32) rfl ?_
      show Steps p.tables e below (T2.setTop (mkF m 33 #[.val (.long q1), .second, .val (.long q2), .second, .val (.long q3), .second, .val (.long q4), .second, .val (.long q5), .second, .val (.int p6), .val (.ref b1), .val (.int (p6 &&& (15 : Int32))), .unset, .unset, .unset, .unset, .unset, .unset, .unset, .unset, .unset, .unset, .unset] [(.long (q1 + q5))])) _
      refine XS.goto X2.here hx rfl (pc0 := 33) (pc' := 37) rfl (hb hby at_33) (by decide) (by decide) ?_
      exact kt
  have dm4 : ∀ target, Steps p.tables e below (T2.setTop (mkF m 54 #[.val (.long q1), .second, .val (.long q2), .second, .val (.long q3), .second, .val (.long q4), .second, .val (.long q5), .second, .val (.int p6), .val (.ref b1), .val (.int (p6 &&& (15 : Int32))), .val (.long (own_b p6 (1 : Int32) q1 q5)), .second, .unset, .unset, .unset, .unset, .unset, .unset, .unset, .unset, .unset] [(.long (own_b p6 (2 : Int32) q2 q5))])) target → Steps p.tables e below (T2.setTop (mkF m 43 #[.val (.long q1), .second, .val (.long q2), .second, .val (.long q3), .second, .val (.long q4), .second, .val (.long q5), .second, .val (.int p6), .val (.ref b1), .val (.int (p6 &&& (15 : Int32))), .val (.long (own_b p6 (1 : Int32) q1 q5)), .second, .unset, .unset, .unset, .unset, .unset, .unset, .unset, .unset, .unset] [(.int ((p6 &&& (15 : Int32)) &&& (2 : Int32)))])) target := by
    intro target kt
    by_cases hdb : ((p6 &&& (15 : Int32)) &&& (2 : Int32)) = (0 : Int32)
    · rw [own_b_pos hdb] at kt
      show Steps p.tables e below (T2.setTop (mkF m 43 #[.val (.long q1), .second, .val (.long q2), .second, .val (.long q3), .second, .val (.long q4), .second, .val (.long q5), .second, .val (.int p6), .val (.ref b1), .val (.int (p6 &&& (15 : Int32))), .val (.long (own_b p6 (1 : Int32) q1 q5)), .second, .unset, .unset, .unset, .unset, .unset, .unset, .unset, .unset, .unset] [(.int ((p6 &&& (15 : Int32)) &&& (2 : Int32)))])) _
      refine XS.ifYes X2.here hx rfl (pc0 := 43) (pc' := 53) rfl (hb hby at_43) rfl ((if0 _ _).trans (teq hdb).1) (by decide) (by decide) ?_
      show Steps p.tables e below (T2.setTop (mkF m 53 #[.val (.long q1), .second, .val (.long q2), .second, .val (.long q3), .second, .val (.long q4), .second, .val (.long q5), .second, .val (.int p6), .val (.ref b1), .val (.int (p6 &&& (15 : Int32))), .val (.long (own_b p6 (1 : Int32) q1 q5)), .second, .unset, .unset, .unset, .unset, .unset, .unset, .unset, .unset, .unset] [])) _
      refine XS.lloadN X2.here hx rfl (hb hby at_53) rfl ?_
      exact kt
    · rw [own_b_neg hdb] at kt
      show Steps p.tables e below (T2.setTop (mkF m 43 #[.val (.long q1), .second, .val (.long q2), .second, .val (.long q3), .second, .val (.long q4), .second, .val (.long q5), .second, .val (.int p6), .val (.ref b1), .val (.int (p6 &&& (15 : Int32))), .val (.long (own_b p6 (1 : Int32) q1 q5)), .second, .unset, .unset, .unset, .unset, .unset, .unset, .unset, .unset, .unset] [(.int ((p6 &&& (15 : Int32)) &&& (2 : Int32)))])) _
      refine XS.ifNo X2.here hx rfl (hb hby at_43) rfl ((if0 _ _).trans (feq hdb).1) ?_
      show Steps p.tables e below (T2.setTop (mkF m 46 #[.val (.long q1), .second, .val (.long q2), .second, .val (.long q3), .second, .val (.long q4), .second, .val (.long q5), .second, .val (.int p6), .val (.ref b1), .val (.int (p6 &&& (15 : Int32))), .val (.long (own_b p6 (1 : Int32) q1 q5)), .second, .unset, .unset, .unset, .unset, .unset, .unset, .unset, .unset, .unset] [])) _
      refine XS.lloadN X2.here hx rfl (hb hby at_46) rfl ?_
      show Steps p.tables e below (T2.setTop (mkF m 47 #[.val (.long q1), .second, .val (.long q2), .second, .val (.long q3), .second, .val (.long q4), .second, .val (.long q5), .second, .val (.int p6), .val (.ref b1), .val (.int (p6 &&& (15 : Int32))), .val (.long (own_b p6 (1 : Int32) q1 q5)), .second, .unset, .unset, .unset, .unset, .unset, .unset, .unset, .unset, .unset] [(.long q2)])) _
      refine XS.lload X2.here hx rfl (hb hby at_47) rfl ?_
      show Steps p.tables e below (T2.setTop (mkF m 49 #[.val (.long q1), .second, .val (.long q2), .second, .val (.long q3), .second, .val (.long q4), .second, .val (.long q5), .second, .val (.int p6), .val (.ref b1), .val (.int (p6 &&& (15 : Int32))), .val (.long (own_b p6 (1 : Int32) q1 q5)), .second, .unset, .unset, .unset, .unset, .unset, .unset, .unset, .unset, .unset] [(.long q5), (.long q2)])) _
      refine XS.ladd X2.here hx rfl (hb hby at_49) rfl ?_
      show Steps p.tables e below (T2.setTop (mkF m 50 #[.val (.long q1), .second, .val (.long q2), .second, .val (.long q3), .second, .val (.long q4), .second, .val (.long q5), .second, .val (.int p6), .val (.ref b1), .val (.int (p6 &&& (15 : Int32))), .val (.long (own_b p6 (1 : Int32) q1 q5)), .second, .unset, .unset, .unset, .unset, .unset, .unset, .unset, .unset, .unset] [(.long (q2 + q5))])) _
      refine XS.goto X2.here hx rfl (pc0 := 50) (pc' := 54) rfl (hb hby at_50) (by decide) (by decide) ?_
      exact kt
  have dm5 : ∀ target, Steps p.tables e below (T2.setTop (mkF m 73 #[.val (.long q1), .second, .val (.long q2), .second, .val (.long q3), .second, .val (.long q4), .second, .val (.long q5), .second, .val (.int p6), .val (.ref b1), .val (.int (p6 &&& (15 : Int32))), .val (.long (own_b p6 (1 : Int32) q1 q5)), .second, .val (.long (own_b p6 (2 : Int32) q2 q5)), .second, .unset, .unset, .unset, .unset, .unset, .unset, .unset] [(.long (own_b p6 (4 : Int32) q3 q5))])) target → Steps p.tables e below (T2.setTop (mkF m 60 #[.val (.long q1), .second, .val (.long q2), .second, .val (.long q3), .second, .val (.long q4), .second, .val (.long q5), .second, .val (.int p6), .val (.ref b1), .val (.int (p6 &&& (15 : Int32))), .val (.long (own_b p6 (1 : Int32) q1 q5)), .second, .val (.long (own_b p6 (2 : Int32) q2 q5)), .second, .unset, .unset, .unset, .unset, .unset, .unset, .unset] [(.int ((p6 &&& (15 : Int32)) &&& (4 : Int32)))])) target := by
    intro target kt
    by_cases hdb : ((p6 &&& (15 : Int32)) &&& (4 : Int32)) = (0 : Int32)
    · rw [own_b_pos hdb] at kt
      show Steps p.tables e below (T2.setTop (mkF m 60 #[.val (.long q1), .second, .val (.long q2), .second, .val (.long q3), .second, .val (.long q4), .second, .val (.long q5), .second, .val (.int p6), .val (.ref b1), .val (.int (p6 &&& (15 : Int32))), .val (.long (own_b p6 (1 : Int32) q1 q5)), .second, .val (.long (own_b p6 (2 : Int32) q2 q5)), .second, .unset, .unset, .unset, .unset, .unset, .unset, .unset] [(.int ((p6 &&& (15 : Int32)) &&& (4 : Int32)))])) _
      refine XS.ifYes X2.here hx rfl (pc0 := 60) (pc' := 71) rfl (hb hby at_60) rfl ((if0 _ _).trans (teq hdb).1) (by decide) (by decide) ?_
      show Steps p.tables e below (T2.setTop (mkF m 71 #[.val (.long q1), .second, .val (.long q2), .second, .val (.long q3), .second, .val (.long q4), .second, .val (.long q5), .second, .val (.int p6), .val (.ref b1), .val (.int (p6 &&& (15 : Int32))), .val (.long (own_b p6 (1 : Int32) q1 q5)), .second, .val (.long (own_b p6 (2 : Int32) q2 q5)), .second, .unset, .unset, .unset, .unset, .unset, .unset, .unset] [])) _
      refine XS.lload X2.here hx rfl (hb hby at_71) rfl ?_
      exact kt
    · rw [own_b_neg hdb] at kt
      show Steps p.tables e below (T2.setTop (mkF m 60 #[.val (.long q1), .second, .val (.long q2), .second, .val (.long q3), .second, .val (.long q4), .second, .val (.long q5), .second, .val (.int p6), .val (.ref b1), .val (.int (p6 &&& (15 : Int32))), .val (.long (own_b p6 (1 : Int32) q1 q5)), .second, .val (.long (own_b p6 (2 : Int32) q2 q5)), .second, .unset, .unset, .unset, .unset, .unset, .unset, .unset] [(.int ((p6 &&& (15 : Int32)) &&& (4 : Int32)))])) _
      refine XS.ifNo X2.here hx rfl (hb hby at_60) rfl ((if0 _ _).trans (feq hdb).1) ?_
      show Steps p.tables e below (T2.setTop (mkF m 63 #[.val (.long q1), .second, .val (.long q2), .second, .val (.long q3), .second, .val (.long q4), .second, .val (.long q5), .second, .val (.int p6), .val (.ref b1), .val (.int (p6 &&& (15 : Int32))), .val (.long (own_b p6 (1 : Int32) q1 q5)), .second, .val (.long (own_b p6 (2 : Int32) q2 q5)), .second, .unset, .unset, .unset, .unset, .unset, .unset, .unset] [])) _
      refine XS.lload X2.here hx rfl (hb hby at_63) rfl ?_
      show Steps p.tables e below (T2.setTop (mkF m 65 #[.val (.long q1), .second, .val (.long q2), .second, .val (.long q3), .second, .val (.long q4), .second, .val (.long q5), .second, .val (.int p6), .val (.ref b1), .val (.int (p6 &&& (15 : Int32))), .val (.long (own_b p6 (1 : Int32) q1 q5)), .second, .val (.long (own_b p6 (2 : Int32) q2 q5)), .second, .unset, .unset, .unset, .unset, .unset, .unset, .unset] [(.long q3)])) _
      refine XS.lload X2.here hx rfl (hb hby at_65) rfl ?_
      show Steps p.tables e below (T2.setTop (mkF m 67 #[.val (.long q1), .second, .val (.long q2), .second, .val (.long q3), .second, .val (.long q4), .second, .val (.long q5), .second, .val (.int p6), .val (.ref b1), .val (.int (p6 &&& (15 : Int32))), .val (.long (own_b p6 (1 : Int32) q1 q5)), .second, .val (.long (own_b p6 (2 : Int32) q2 q5)), .second, .unset, .unset, .unset, .unset, .unset, .unset, .unset] [(.long q5), (.long q3)])) _
      refine XS.ladd X2.here hx rfl (hb hby at_67) rfl ?_
      show Steps p.tables e below (T2.setTop (mkF m 68 #[.val (.long q1), .second, .val (.long q2), .second, .val (.long q3), .second, .val (.long q4), .second, .val (.long q5), .second, .val (.int p6), .val (.ref b1), .val (.int (p6 &&& (15 : Int32))), .val (.long (own_b p6 (1 : Int32) q1 q5)), .second, .val (.long (own_b p6 (2 : Int32) q2 q5)), .second, .unset, .unset, .unset, .unset, .unset, .unset, .unset] [(.long (q3 + q5))])) _
      refine XS.goto X2.here hx rfl (pc0 := 68) (pc' := 73) rfl (hb hby at_68) (by decide) (by decide) ?_
      exact kt
  have dm6 : ∀ target, Steps p.tables e below (T2.setTop (mkF m 93 #[.val (.long q1), .second, .val (.long q2), .second, .val (.long q3), .second, .val (.long q4), .second, .val (.long q5), .second, .val (.int p6), .val (.ref b1), .val (.int (p6 &&& (15 : Int32))), .val (.long (own_b p6 (1 : Int32) q1 q5)), .second, .val (.long (own_b p6 (2 : Int32) q2 q5)), .second, .val (.long (own_b p6 (4 : Int32) q3 q5)), .second, .unset, .unset, .unset, .unset, .unset] [(.long (own_b p6 (8 : Int32) q4 q5))])) target → Steps p.tables e below (T2.setTop (mkF m 80 #[.val (.long q1), .second, .val (.long q2), .second, .val (.long q3), .second, .val (.long q4), .second, .val (.long q5), .second, .val (.int p6), .val (.ref b1), .val (.int (p6 &&& (15 : Int32))), .val (.long (own_b p6 (1 : Int32) q1 q5)), .second, .val (.long (own_b p6 (2 : Int32) q2 q5)), .second, .val (.long (own_b p6 (4 : Int32) q3 q5)), .second, .unset, .unset, .unset, .unset, .unset] [(.int ((p6 &&& (15 : Int32)) &&& (8 : Int32)))])) target := by
    intro target kt
    by_cases hdb : ((p6 &&& (15 : Int32)) &&& (8 : Int32)) = (0 : Int32)
    · rw [own_b_pos hdb] at kt
      show Steps p.tables e below (T2.setTop (mkF m 80 #[.val (.long q1), .second, .val (.long q2), .second, .val (.long q3), .second, .val (.long q4), .second, .val (.long q5), .second, .val (.int p6), .val (.ref b1), .val (.int (p6 &&& (15 : Int32))), .val (.long (own_b p6 (1 : Int32) q1 q5)), .second, .val (.long (own_b p6 (2 : Int32) q2 q5)), .second, .val (.long (own_b p6 (4 : Int32) q3 q5)), .second, .unset, .unset, .unset, .unset, .unset] [(.int ((p6 &&& (15 : Int32)) &&& (8 : Int32)))])) _
      refine XS.ifYes X2.here hx rfl (pc0 := 80) (pc' := 91) rfl (hb hby at_80) rfl ((if0 _ _).trans (teq hdb).1) (by decide) (by decide) ?_
      show Steps p.tables e below (T2.setTop (mkF m 91 #[.val (.long q1), .second, .val (.long q2), .second, .val (.long q3), .second, .val (.long q4), .second, .val (.long q5), .second, .val (.int p6), .val (.ref b1), .val (.int (p6 &&& (15 : Int32))), .val (.long (own_b p6 (1 : Int32) q1 q5)), .second, .val (.long (own_b p6 (2 : Int32) q2 q5)), .second, .val (.long (own_b p6 (4 : Int32) q3 q5)), .second, .unset, .unset, .unset, .unset, .unset] [])) _
      refine XS.lload X2.here hx rfl (hb hby at_91) rfl ?_
      exact kt
    · rw [own_b_neg hdb] at kt
      show Steps p.tables e below (T2.setTop (mkF m 80 #[.val (.long q1), .second, .val (.long q2), .second, .val (.long q3), .second, .val (.long q4), .second, .val (.long q5), .second, .val (.int p6), .val (.ref b1), .val (.int (p6 &&& (15 : Int32))), .val (.long (own_b p6 (1 : Int32) q1 q5)), .second, .val (.long (own_b p6 (2 : Int32) q2 q5)), .second, .val (.long (own_b p6 (4 : Int32) q3 q5)), .second, .unset, .unset, .unset, .unset, .unset] [(.int ((p6 &&& (15 : Int32)) &&& (8 : Int32)))])) _
      refine XS.ifNo X2.here hx rfl (hb hby at_80) rfl ((if0 _ _).trans (feq hdb).1) ?_
      show Steps p.tables e below (T2.setTop (mkF m 83 #[.val (.long q1), .second, .val (.long q2), .second, .val (.long q3), .second, .val (.long q4), .second, .val (.long q5), .second, .val (.int p6), .val (.ref b1), .val (.int (p6 &&& (15 : Int32))), .val (.long (own_b p6 (1 : Int32) q1 q5)), .second, .val (.long (own_b p6 (2 : Int32) q2 q5)), .second, .val (.long (own_b p6 (4 : Int32) q3 q5)), .second, .unset, .unset, .unset, .unset, .unset] [])) _
      refine XS.lload X2.here hx rfl (hb hby at_83) rfl ?_
      show Steps p.tables e below (T2.setTop (mkF m 85 #[.val (.long q1), .second, .val (.long q2), .second, .val (.long q3), .second, .val (.long q4), .second, .val (.long q5), .second, .val (.int p6), .val (.ref b1), .val (.int (p6 &&& (15 : Int32))), .val (.long (own_b p6 (1 : Int32) q1 q5)), .second, .val (.long (own_b p6 (2 : Int32) q2 q5)), .second, .val (.long (own_b p6 (4 : Int32) q3 q5)), .second, .unset, .unset, .unset, .unset, .unset] [(.long q4)])) _
      refine XS.lload X2.here hx rfl (hb hby at_85) rfl ?_
      show Steps p.tables e below (T2.setTop (mkF m 87 #[.val (.long q1), .second, .val (.long q2), .second, .val (.long q3), .second, .val (.long q4), .second, .val (.long q5), .second, .val (.int p6), .val (.ref b1), .val (.int (p6 &&& (15 : Int32))), .val (.long (own_b p6 (1 : Int32) q1 q5)), .second, .val (.long (own_b p6 (2 : Int32) q2 q5)), .second, .val (.long (own_b p6 (4 : Int32) q3 q5)), .second, .unset, .unset, .unset, .unset, .unset] [(.long q5), (.long q4)])) _
      refine XS.ladd X2.here hx rfl (hb hby at_87) rfl ?_
      show Steps p.tables e below (T2.setTop (mkF m 88 #[.val (.long q1), .second, .val (.long q2), .second, .val (.long q3), .second, .val (.long q4), .second, .val (.long q5), .second, .val (.int p6), .val (.ref b1), .val (.int (p6 &&& (15 : Int32))), .val (.long (own_b p6 (1 : Int32) q1 q5)), .second, .val (.long (own_b p6 (2 : Int32) q2 q5)), .second, .val (.long (own_b p6 (4 : Int32) q3 q5)), .second, .unset, .unset, .unset, .unset, .unset] [(.long (q4 + q5))])) _
      refine XS.goto X2.here hx rfl (pc0 := 88) (pc' := 93) rfl (hb hby at_88) (by decide) (by decide) ?_
      exact kt
  obtain ⟨T7, h7, X7, e7, E7, A7, D7, -, st7⟩ := newO X2 hx hZ hown (hw _ (List.mem_of_getElem? (i := 0) rfl)) (hw _ (List.mem_of_getElem? (i := 1) rfl)) (hw _ (List.mem_of_getElem? (i := 2) rfl)) rfl (g := (mkF m 95 #[.val (.long q1), .second, .val (.long q2), .second, .val (.long q3), .second, .val (.long q4), .second, .val (.long q5), .second, .val (.int p6), .val (.ref b1), .val (.int (p6 &&& (15 : Int32))), .val (.long (own_b p6 (1 : Int32) q1 q5)), .second, .val (.long (own_b p6 (2 : Int32) q2 q5)), .second, .val (.long (own_b p6 (4 : Int32) q3 q5)), .second, .val (.long (own_b p6 (8 : Int32) q4 q5)), .second, .unset, .unset, .unset] [])) rfl (hb hby at_95) (by decide) (by decide)
  obtain ⟨b7, gq7⟩ : ∃ z, z = T2.heap.size := ⟨_, rfl⟩
  rw [← gq7] at A7 D7 st7
  have g_b7 : n0 ≤ b7 := Nat.le_trans ((O2.1 ▸ O2.2.1) : n0 ≤ T2.heap.size) (Nat.le_of_eq gq7.symm)
  have sz_b7 : h0.size ≤ b7 := Nat.le_trans KK2.1 (Nat.le_of_eq gq7.symm)
  have KK7 : Keep h0 h7 [] := KK2.ext E7
  have O7 := O2.ext E7
  have F_pending_b7 : Fld Z h7 b7 "com/example/bide/bide/QueueCounts" "pending" "J" (.long (0 : Int64)) := D7 (Or.inr (hw _ (List.mem_of_getElem? (i := 10) rfl))) (ty := .long) (by decide)
  have F_due_b7 : Fld Z h7 b7 "com/example/bide/bide/QueueCounts" "due" "J" (.long (0 : Int64)) := D7 (Or.inr (hw _ (List.mem_of_getElem? (i := 12) rfl))) (ty := .long) (by decide)
  have F_leased_b7 : Fld Z h7 b7 "com/example/bide/bide/QueueCounts" "leased" "J" (.long (0 : Int64)) := D7 (Or.inr (hw _ (List.mem_of_getElem? (i := 14) rfl))) (ty := .long) (by decide)
  have F_dead_b7 : Fld Z h7 b7 "com/example/bide/bide/QueueCounts" "dead" "J" (.long (0 : Int64)) := D7 (Or.inr (hw _ (List.mem_of_getElem? (i := 16) rfl))) (ty := .long) (by decide)
  obtain ⟨_, _, ⟨T8, L8, k8, n8⟩, -, X8, ⟨Lc8, hQ8, l8, y8, z8⟩, st8⟩ := X7.specialBack hx (y := (⟨"com/example/bide/bide/QueueCounts", "<init>", "(JJJJ)V"⟩ : MethodName)) rfl hown (mvT hZ (hw _ (List.mem_of_getElem? (i := 3) rfl))) (mvT hZ (hw _ (List.mem_of_getElem? (i := 4) rfl))) (mvT hZ (hw _ (List.mem_of_getElem? (i := 5) rfl))) (by decide) (backOf (W := 1) (rm1_0 l Z a0 hw b7 (own_b p6 (1 : Int32) q1 q5) (own_b p6 (2 : Int32) q2 q5) (own_b p6 (4 : Int32) q3 q5) (own_b p6 (8 : Int32) q4 q5) h7 n0 O7 A7 F_pending_b7 F_due_b7 F_leased_b7 F_dead_b7 g_b7) hZ (hw _ (List.mem_of_getElem? (i := 5) rfl)) (hw _ (List.mem_of_getElem? (i := 2) rfl)) (by decide) (by decide)) (g := (mkF m 107 #[.val (.long q1), .second, .val (.long q2), .second, .val (.long q3), .second, .val (.long q4), .second, .val (.long q5), .second, .val (.int p6), .val (.ref b1), .val (.int (p6 &&& (15 : Int32))), .val (.long (own_b p6 (1 : Int32) q1 q5)), .second, .val (.long (own_b p6 (2 : Int32) q2 q5)), .second, .val (.long (own_b p6 (4 : Int32) q3 q5)), .second, .val (.long (own_b p6 (8 : Int32) q4 q5)), .second, .unset, .unset, .unset] [(.long (own_b p6 (8 : Int32) q4 q5)), (.long (own_b p6 (4 : Int32) q3 q5)), (.long (own_b p6 (2 : Int32) q2 q5)), (.long (own_b p6 (1 : Int32) q1 q5)), (.ref b7), (.ref b7)])) rfl (by rw [hml]; rfl) (Steps.refl _) (a := b7) (argsL := [(.long (own_b p6 (1 : Int32) q1 q5)), (.long (own_b p6 (2 : Int32) q2 q5)), (.long (own_b p6 (4 : Int32) q3 q5)), (.long (own_b p6 (8 : Int32) q4 q5))]) (rest := [(.ref b7)]) (lenOf pd_2 rfl) rfl (by show 2 * 0 + _ ≤ _; exact Nat.le_of_eq rfl) (hb hby at_107) (fun _ _ => ⟨rfl, e7, (by decide : 2 + 0 ≤ _), (by decide : 8 + 0 ≤ _)⟩)
  dsimp only [Pt.U, Pt.locs, Pt.cells, Pt.slots] at X8 l8 y8 z8 st8 hQ8
  subst l8 y8 z8
  obtain ⟨rfl, N8q, K8, f8_0, f8_1, f8_2, f8_3⟩ := hQ8
  have KK8 : Keep h0 T8.heap [] := KK7.trans K8 (allS (Or.inr sz_b7) all0)
  have O8 := O7.keep K8 (allS g_b7 all0)
  have N8 := Fr.app N2 N8q
  have nz9 : b1 ≠ b7 := (Nat.ne_of_lt (Nat.lt_of_lt_of_le (A1.keep K2).lt (Nat.le_of_eq gq7.symm)))
  obtain ⟨cq10, kq10, q10a, q10b, q10c⟩ := isOf hZ rfl (((A1.keep K2).ext E7).keep K8)
  obtain ⟨_, _, ⟨T10, L10, k10, n10⟩, -, X10, ⟨Lc10, hQ10, l10, y10, z10⟩, st10⟩ := X8.virtualBack hx (y := (⟨"com/example/bide/bide/QueueCounts", "equals", "(Ljava/lang/Object;)Z"⟩ : MethodName)) (z := (⟨"com/example/bide/bide/QueueCounts", "equals", "(Ljava/lang/Object;)Z"⟩ : MethodName)) hown (mvT hZ (hw _ (List.mem_of_getElem? (i := 17) rfl))) (mvT hZ (hw _ (List.mem_of_getElem? (i := 18) rfl))) (notFace_of_selects (args := #[]) (mvT hZ (hw _ (List.mem_of_getElem? (i := 20) rfl)))) (mvT hZ (hw _ (List.mem_of_getElem? (i := 20) rfl))) (mvT hZ (hw _ (List.mem_of_getElem? (i := 19) rfl))) (by decide) (backOf (W := 0) (rm3_4 l Z a0 hw b1 b7 q1 (own_b p6 (1 : Int32) q1 q5) q2 (own_b p6 (2 : Int32) q2 q5) q3 (own_b p6 (4 : Int32) q3 q5) q4 (own_b p6 (8 : Int32) q4 q5) T8.heap n0 O8 (A7.keep K8) ((f2_0.ext E7).keep K8 (ninS nz9 nin0)) f8_0 P4 ((f2_1.ext E7).keep K8 (ninS nz9 nin0)) f8_1 P5 ((f2_2.ext E7).keep K8 (ninS nz9 nin0)) f8_2 P6 ((f2_3.ext E7).keep K8 (ninS nz9 nin0)) f8_3 P7) hZ (hw _ (List.mem_of_getElem? (i := 21) rfl)) (hw _ (List.mem_of_getElem? (i := 2) rfl)) (by decide) (by decide)) q10a q10c (g := (mkF m 202 #[.val (.long q1), .second, .val (.long q2), .second, .val (.long q3), .second, .val (.long q4), .second, .val (.long q5), .second, .val (.int p6), .val (.ref b1), .val (.int (p6 &&& (15 : Int32))), .val (.long (own_b p6 (1 : Int32) q1 q5)), .second, .val (.long (own_b p6 (2 : Int32) q2 q5)), .second, .val (.long (own_b p6 (4 : Int32) q3 q5)), .second, .val (.long (own_b p6 (8 : Int32) q4 q5)), .second, .val (.ref b7), .val (.int (0 : Int32)), .val (.int (0 : Int32))] [(.ref b7), (.ref b1)])) rfl (by rw [hml]; rfl) (Steps.refl _) (argsL := [(.ref b7)]) (rest := []) (lenOf pd_4 rfl) rfl (by show 2 * 0 + _ ≤ _; exact Nat.le_of_eq rfl) (hb hby at_202) (fun _ _ => ⟨rfl, rfl, (by decide : 2 + 0 ≤ _), (by decide : 8 + 0 ≤ _)⟩)
  dsimp only [Pt.U, Pt.locs, Pt.cells, Pt.slots] at X10 l10 y10 z10 st10 hQ10
  subst l10 y10 z10
  obtain ⟨rfl, N10q, e10⟩ := hQ10
  have N10 := Fr.app N8 N10q
  obtain ⟨cq11, kq11, q11a, q11b, q11c⟩ := isOf hZ e10 (A7.keep K8)
  obtain ⟨_, _, ⟨T11, L11, k11, n11⟩, -, X11, ⟨Lc11, hQ11, l11, y11, z11⟩, st11⟩ := X10.virtualBack hx (y := (⟨"com/example/bide/bide/QueueCounts", "equals", "(Ljava/lang/Object;)Z"⟩ : MethodName)) (z := (⟨"com/example/bide/bide/QueueCounts", "equals", "(Ljava/lang/Object;)Z"⟩ : MethodName)) hown (mvT hZ (hw _ (List.mem_of_getElem? (i := 17) rfl))) (mvT hZ (hw _ (List.mem_of_getElem? (i := 18) rfl))) (notFace_of_selects (args := #[]) (mvT hZ (hw _ (List.mem_of_getElem? (i := 20) rfl)))) (mvT hZ (hw _ (List.mem_of_getElem? (i := 20) rfl))) (mvT hZ (hw _ (List.mem_of_getElem? (i := 19) rfl))) (by decide) (backOf (W := 0) (rm3_4 l Z a0 hw b7 b1 (own_b p6 (1 : Int32) q1 q5) q1 (own_b p6 (2 : Int32) q2 q5) q2 (own_b p6 (4 : Int32) q3 q5) q3 (own_b p6 (8 : Int32) q4 q5) q4 T8.heap n0 O8 (((A1.keep K2).ext E7).keep K8) f8_0 ((f2_0.ext E7).keep K8 (ninS nz9 nin0)) P8 f8_1 ((f2_1.ext E7).keep K8 (ninS nz9 nin0)) P9 f8_2 ((f2_2.ext E7).keep K8 (ninS nz9 nin0)) P10 f8_3 ((f2_3.ext E7).keep K8 (ninS nz9 nin0)) P11) hZ (hw _ (List.mem_of_getElem? (i := 21) rfl)) (hw _ (List.mem_of_getElem? (i := 2) rfl)) (by decide) (by decide)) q11a q11c (g := (mkF m 214 #[.val (.long q1), .second, .val (.long q2), .second, .val (.long q3), .second, .val (.long q4), .second, .val (.long q5), .second, .val (.int p6), .val (.ref b1), .val (.int (p6 &&& (15 : Int32))), .val (.long (own_b p6 (1 : Int32) q1 q5)), .second, .val (.long (own_b p6 (2 : Int32) q2 q5)), .second, .val (.long (own_b p6 (4 : Int32) q3 q5)), .second, .val (.long (own_b p6 (8 : Int32) q4 q5)), .second, .val (.ref b7), .val (.int (0 : Int32)), .val (.int (0 : Int32))] [(.ref b1), (.ref b7)])) rfl (by rw [hml]; rfl) (Steps.refl _) (argsL := [(.ref b1)]) (rest := []) (lenOf pd_4 rfl) rfl (by show 2 * 0 + _ ≤ _; exact Nat.le_of_eq rfl) (hb hby at_214) (fun _ _ => ⟨rfl, e10, (by decide : 2 + 0 ≤ _), (by decide : 8 + 0 ≤ _)⟩)
  dsimp only [Pt.U, Pt.locs, Pt.cells, Pt.slots] at X11 l11 y11 z11 st11 hQ11
  subst l11 y11 z11
  obtain ⟨rfl, N11q, e11⟩ := hQ11
  have N11 := Fr.app N10 N11q
  obtain ⟨fs, hr, hrun, hended, hW, hsame⟩ := X11.leave (v := some (.int (1 : Int32))) (fun h => by rw [Bd.returns] at h; cases h)
  refine ⟨_, _, pre0 _ ?_, hrun, hended, _, _, rfl, ?_, ⟨_, rfl⟩, hW, hsame.mono (by decide) (by decide)⟩
  · show Steps p.tables e below (s₁.setTop (mkF m 0 #[.val (.long q1), .second, .val (.long q2), .second, .val (.long q3), .second, .val (.long q4), .second, .val (.long q5), .second, .val (.int p6), .unset, .unset, .unset, .unset, .unset, .unset, .unset, .unset, .unset, .unset, .unset, .unset, .unset] [])) _
    refine st1 _ ?_
    show Steps p.tables e below (T1.setTop (mkF m 3 #[.val (.long q1), .second, .val (.long q2), .second, .val (.long q3), .second, .val (.long q4), .second, .val (.long q5), .second, .val (.int p6), .unset, .unset, .unset, .unset, .unset, .unset, .unset, .unset, .unset, .unset, .unset, .unset, .unset] [(.ref b1)])) _
    refine XS.dup X1.here hx rfl (hb hby at_3) rfl rfl ?_
    show Steps p.tables e below (T1.setTop (mkF m 4 #[.val (.long q1), .second, .val (.long q2), .second, .val (.long q3), .second, .val (.long q4), .second, .val (.long q5), .second, .val (.int p6), .unset, .unset, .unset, .unset, .unset, .unset, .unset, .unset, .unset, .unset, .unset, .unset, .unset] [(.ref b1), (.ref b1)])) _
    refine XS.lloadN X1.here hx rfl (hb hby at_4) rfl ?_
    show Steps p.tables e below (T1.setTop (mkF m 5 #[.val (.long q1), .second, .val (.long q2), .second, .val (.long q3), .second, .val (.long q4), .second, .val (.long q5), .second, .val (.int p6), .unset, .unset, .unset, .unset, .unset, .unset, .unset, .unset, .unset, .unset, .unset, .unset, .unset] [(.long q1), (.ref b1), (.ref b1)])) _
    refine XS.lloadN X1.here hx rfl (hb hby at_5) rfl ?_
    show Steps p.tables e below (T1.setTop (mkF m 6 #[.val (.long q1), .second, .val (.long q2), .second, .val (.long q3), .second, .val (.long q4), .second, .val (.long q5), .second, .val (.int p6), .unset, .unset, .unset, .unset, .unset, .unset, .unset, .unset, .unset, .unset, .unset, .unset, .unset] [(.long q2), (.long q1), (.ref b1), (.ref b1)])) _
    refine XS.lload X1.here hx rfl (hb hby at_6) rfl ?_
    show Steps p.tables e below (T1.setTop (mkF m 8 #[.val (.long q1), .second, .val (.long q2), .second, .val (.long q3), .second, .val (.long q4), .second, .val (.long q5), .second, .val (.int p6), .unset, .unset, .unset, .unset, .unset, .unset, .unset, .unset, .unset, .unset, .unset, .unset, .unset] [(.long q3), (.long q2), (.long q1), (.ref b1), (.ref b1)])) _
    refine XS.lload X1.here hx rfl (hb hby at_8) rfl ?_
    show Steps p.tables e below (T1.setTop (mkF m 10 #[.val (.long q1), .second, .val (.long q2), .second, .val (.long q3), .second, .val (.long q4), .second, .val (.long q5), .second, .val (.int p6), .unset, .unset, .unset, .unset, .unset, .unset, .unset, .unset, .unset, .unset, .unset, .unset, .unset] [(.long q4), (.long q3), (.long q2), (.long q1), (.ref b1), (.ref b1)])) _
    refine st2.trans ?_
    show Steps p.tables e below (T2.setTop (mkF m 13 #[.val (.long q1), .second, .val (.long q2), .second, .val (.long q3), .second, .val (.long q4), .second, .val (.long q5), .second, .val (.int p6), .unset, .unset, .unset, .unset, .unset, .unset, .unset, .unset, .unset, .unset, .unset, .unset, .unset] [(.ref b1)])) _
    refine XS.astore X2.here hx rfl (hb hby at_13) rfl rfl (l' := #[.val (.long q1), .second, .val (.long q2), .second, .val (.long q3), .second, .val (.long q4), .second, .val (.long q5), .second, .val (.int p6), .val (.ref b1), .unset, .unset, .unset, .unset, .unset, .unset, .unset, .unset, .unset, .unset, .unset, .unset]) rfl ?_
    show Steps p.tables e below (T2.setTop (mkF m 15 #[.val (.long q1), .second, .val (.long q2), .second, .val (.long q3), .second, .val (.long q4), .second, .val (.long q5), .second, .val (.int p6), .val (.ref b1), .unset, .unset, .unset, .unset, .unset, .unset, .unset, .unset, .unset, .unset, .unset, .unset] [])) _
    refine XS.iload X2.here hx rfl (hb hby at_15) rfl ?_
    show Steps p.tables e below (T2.setTop (mkF m 17 #[.val (.long q1), .second, .val (.long q2), .second, .val (.long q3), .second, .val (.long q4), .second, .val (.long q5), .second, .val (.int p6), .val (.ref b1), .unset, .unset, .unset, .unset, .unset, .unset, .unset, .unset, .unset, .unset, .unset, .unset] [(.int p6)])) _
    refine XS.bipush X2.here hx rfl (hb hby at_17) ?_
    show Steps p.tables e below (T2.setTop (mkF m 19 #[.val (.long q1), .second, .val (.long q2), .second, .val (.long q3), .second, .val (.long q4), .second, .val (.long q5), .second, .val (.int p6), .val (.ref b1), .unset, .unset, .unset, .unset, .unset, .unset, .unset, .unset, .unset, .unset, .unset, .unset] [(.int (15 : Int32)), (.int p6)])) _
    refine XS.iand X2.here hx rfl (hb hby at_19) rfl ?_
    show Steps p.tables e below (T2.setTop (mkF m 20 #[.val (.long q1), .second, .val (.long q2), .second, .val (.long q3), .second, .val (.long q4), .second, .val (.long q5), .second, .val (.int p6), .val (.ref b1), .unset, .unset, .unset, .unset, .unset, .unset, .unset, .unset, .unset, .unset, .unset, .unset] [(.int (p6 &&& (15 : Int32)))])) _
    refine XS.istore X2.here hx rfl (hb hby at_20) rfl (l' := #[.val (.long q1), .second, .val (.long q2), .second, .val (.long q3), .second, .val (.long q4), .second, .val (.long q5), .second, .val (.int p6), .val (.ref b1), .val (.int (p6 &&& (15 : Int32))), .unset, .unset, .unset, .unset, .unset, .unset, .unset, .unset, .unset, .unset, .unset]) rfl ?_
    show Steps p.tables e below (T2.setTop (mkF m 22 #[.val (.long q1), .second, .val (.long q2), .second, .val (.long q3), .second, .val (.long q4), .second, .val (.long q5), .second, .val (.int p6), .val (.ref b1), .val (.int (p6 &&& (15 : Int32))), .unset, .unset, .unset, .unset, .unset, .unset, .unset, .unset, .unset, .unset, .unset] [])) _
    refine XS.iload X2.here hx rfl (hb hby at_22) rfl ?_
    show Steps p.tables e below (T2.setTop (mkF m 24 #[.val (.long q1), .second, .val (.long q2), .second, .val (.long q3), .second, .val (.long q4), .second, .val (.long q5), .second, .val (.int p6), .val (.ref b1), .val (.int (p6 &&& (15 : Int32))), .unset, .unset, .unset, .unset, .unset, .unset, .unset, .unset, .unset, .unset, .unset] [(.int (p6 &&& (15 : Int32)))])) _
    refine XS.iconst X2.here hx rfl (hb hby at_24) ?_
    show Steps p.tables e below (T2.setTop (mkF m 25 #[.val (.long q1), .second, .val (.long q2), .second, .val (.long q3), .second, .val (.long q4), .second, .val (.long q5), .second, .val (.int p6), .val (.ref b1), .val (.int (p6 &&& (15 : Int32))), .unset, .unset, .unset, .unset, .unset, .unset, .unset, .unset, .unset, .unset, .unset] [(.int (1 : Int32)), (.int (p6 &&& (15 : Int32)))])) _
    refine XS.iand X2.here hx rfl (hb hby at_25) rfl ?_
    show Steps p.tables e below (T2.setTop (mkF m 26 #[.val (.long q1), .second, .val (.long q2), .second, .val (.long q3), .second, .val (.long q4), .second, .val (.long q5), .second, .val (.int p6), .val (.ref b1), .val (.int (p6 &&& (15 : Int32))), .unset, .unset, .unset, .unset, .unset, .unset, .unset, .unset, .unset, .unset, .unset] [(.int ((p6 &&& (15 : Int32)) &&& (1 : Int32)))])) _
    refine dm3 _ ?_
    show Steps p.tables e below (T2.setTop (mkF m 37 #[.val (.long q1), .second, .val (.long q2), .second, .val (.long q3), .second, .val (.long q4), .second, .val (.long q5), .second, .val (.int p6), .val (.ref b1), .val (.int (p6 &&& (15 : Int32))), .unset, .unset, .unset, .unset, .unset, .unset, .unset, .unset, .unset, .unset, .unset] [(.long (own_b p6 (1 : Int32) q1 q5))])) _
    refine XS.lstore X2.here hx rfl (hb hby at_37) rfl (l' := #[.val (.long q1), .second, .val (.long q2), .second, .val (.long q3), .second, .val (.long q4), .second, .val (.long q5), .second, .val (.int p6), .val (.ref b1), .val (.int (p6 &&& (15 : Int32))), .val (.long (own_b p6 (1 : Int32) q1 q5)), .second, .unset, .unset, .unset, .unset, .unset, .unset, .unset, .unset, .unset]) rfl ?_
    show Steps p.tables e below (T2.setTop (mkF m 39 #[.val (.long q1), .second, .val (.long q2), .second, .val (.long q3), .second, .val (.long q4), .second, .val (.long q5), .second, .val (.int p6), .val (.ref b1), .val (.int (p6 &&& (15 : Int32))), .val (.long (own_b p6 (1 : Int32) q1 q5)), .second, .unset, .unset, .unset, .unset, .unset, .unset, .unset, .unset, .unset] [])) _
    refine XS.iload X2.here hx rfl (hb hby at_39) rfl ?_
    show Steps p.tables e below (T2.setTop (mkF m 41 #[.val (.long q1), .second, .val (.long q2), .second, .val (.long q3), .second, .val (.long q4), .second, .val (.long q5), .second, .val (.int p6), .val (.ref b1), .val (.int (p6 &&& (15 : Int32))), .val (.long (own_b p6 (1 : Int32) q1 q5)), .second, .unset, .unset, .unset, .unset, .unset, .unset, .unset, .unset, .unset] [(.int (p6 &&& (15 : Int32)))])) _
    refine XS.iconst X2.here hx rfl (hb hby at_41) ?_
    show Steps p.tables e below (T2.setTop (mkF m 42 #[.val (.long q1), .second, .val (.long q2), .second, .val (.long q3), .second, .val (.long q4), .second, .val (.long q5), .second, .val (.int p6), .val (.ref b1), .val (.int (p6 &&& (15 : Int32))), .val (.long (own_b p6 (1 : Int32) q1 q5)), .second, .unset, .unset, .unset, .unset, .unset, .unset, .unset, .unset, .unset] [(.int (2 : Int32)), (.int (p6 &&& (15 : Int32)))])) _
    refine XS.iand X2.here hx rfl (hb hby at_42) rfl ?_
    show Steps p.tables e below (T2.setTop (mkF m 43 #[.val (.long q1), .second, .val (.long q2), .second, .val (.long q3), .second, .val (.long q4), .second, .val (.long q5), .second, .val (.int p6), .val (.ref b1), .val (.int (p6 &&& (15 : Int32))), .val (.long (own_b p6 (1 : Int32) q1 q5)), .second, .unset, .unset, .unset, .unset, .unset, .unset, .unset, .unset, .unset] [(.int ((p6 &&& (15 : Int32)) &&& (2 : Int32)))])) _
    refine dm4 _ ?_
    show Steps p.tables e below (T2.setTop (mkF m 54 #[.val (.long q1), .second, .val (.long q2), .second, .val (.long q3), .second, .val (.long q4), .second, .val (.long q5), .second, .val (.int p6), .val (.ref b1), .val (.int (p6 &&& (15 : Int32))), .val (.long (own_b p6 (1 : Int32) q1 q5)), .second, .unset, .unset, .unset, .unset, .unset, .unset, .unset, .unset, .unset] [(.long (own_b p6 (2 : Int32) q2 q5))])) _
    refine XS.lstore X2.here hx rfl (hb hby at_54) rfl (l' := #[.val (.long q1), .second, .val (.long q2), .second, .val (.long q3), .second, .val (.long q4), .second, .val (.long q5), .second, .val (.int p6), .val (.ref b1), .val (.int (p6 &&& (15 : Int32))), .val (.long (own_b p6 (1 : Int32) q1 q5)), .second, .val (.long (own_b p6 (2 : Int32) q2 q5)), .second, .unset, .unset, .unset, .unset, .unset, .unset, .unset]) rfl ?_
    show Steps p.tables e below (T2.setTop (mkF m 56 #[.val (.long q1), .second, .val (.long q2), .second, .val (.long q3), .second, .val (.long q4), .second, .val (.long q5), .second, .val (.int p6), .val (.ref b1), .val (.int (p6 &&& (15 : Int32))), .val (.long (own_b p6 (1 : Int32) q1 q5)), .second, .val (.long (own_b p6 (2 : Int32) q2 q5)), .second, .unset, .unset, .unset, .unset, .unset, .unset, .unset] [])) _
    refine XS.iload X2.here hx rfl (hb hby at_56) rfl ?_
    show Steps p.tables e below (T2.setTop (mkF m 58 #[.val (.long q1), .second, .val (.long q2), .second, .val (.long q3), .second, .val (.long q4), .second, .val (.long q5), .second, .val (.int p6), .val (.ref b1), .val (.int (p6 &&& (15 : Int32))), .val (.long (own_b p6 (1 : Int32) q1 q5)), .second, .val (.long (own_b p6 (2 : Int32) q2 q5)), .second, .unset, .unset, .unset, .unset, .unset, .unset, .unset] [(.int (p6 &&& (15 : Int32)))])) _
    refine XS.iconst X2.here hx rfl (hb hby at_58) ?_
    show Steps p.tables e below (T2.setTop (mkF m 59 #[.val (.long q1), .second, .val (.long q2), .second, .val (.long q3), .second, .val (.long q4), .second, .val (.long q5), .second, .val (.int p6), .val (.ref b1), .val (.int (p6 &&& (15 : Int32))), .val (.long (own_b p6 (1 : Int32) q1 q5)), .second, .val (.long (own_b p6 (2 : Int32) q2 q5)), .second, .unset, .unset, .unset, .unset, .unset, .unset, .unset] [(.int (4 : Int32)), (.int (p6 &&& (15 : Int32)))])) _
    refine XS.iand X2.here hx rfl (hb hby at_59) rfl ?_
    show Steps p.tables e below (T2.setTop (mkF m 60 #[.val (.long q1), .second, .val (.long q2), .second, .val (.long q3), .second, .val (.long q4), .second, .val (.long q5), .second, .val (.int p6), .val (.ref b1), .val (.int (p6 &&& (15 : Int32))), .val (.long (own_b p6 (1 : Int32) q1 q5)), .second, .val (.long (own_b p6 (2 : Int32) q2 q5)), .second, .unset, .unset, .unset, .unset, .unset, .unset, .unset] [(.int ((p6 &&& (15 : Int32)) &&& (4 : Int32)))])) _
    refine dm5 _ ?_
    show Steps p.tables e below (T2.setTop (mkF m 73 #[.val (.long q1), .second, .val (.long q2), .second, .val (.long q3), .second, .val (.long q4), .second, .val (.long q5), .second, .val (.int p6), .val (.ref b1), .val (.int (p6 &&& (15 : Int32))), .val (.long (own_b p6 (1 : Int32) q1 q5)), .second, .val (.long (own_b p6 (2 : Int32) q2 q5)), .second, .unset, .unset, .unset, .unset, .unset, .unset, .unset] [(.long (own_b p6 (4 : Int32) q3 q5))])) _
    refine XS.lstore X2.here hx rfl (hb hby at_73) rfl (l' := #[.val (.long q1), .second, .val (.long q2), .second, .val (.long q3), .second, .val (.long q4), .second, .val (.long q5), .second, .val (.int p6), .val (.ref b1), .val (.int (p6 &&& (15 : Int32))), .val (.long (own_b p6 (1 : Int32) q1 q5)), .second, .val (.long (own_b p6 (2 : Int32) q2 q5)), .second, .val (.long (own_b p6 (4 : Int32) q3 q5)), .second, .unset, .unset, .unset, .unset, .unset]) rfl ?_
    show Steps p.tables e below (T2.setTop (mkF m 75 #[.val (.long q1), .second, .val (.long q2), .second, .val (.long q3), .second, .val (.long q4), .second, .val (.long q5), .second, .val (.int p6), .val (.ref b1), .val (.int (p6 &&& (15 : Int32))), .val (.long (own_b p6 (1 : Int32) q1 q5)), .second, .val (.long (own_b p6 (2 : Int32) q2 q5)), .second, .val (.long (own_b p6 (4 : Int32) q3 q5)), .second, .unset, .unset, .unset, .unset, .unset] [])) _
    refine XS.iload X2.here hx rfl (hb hby at_75) rfl ?_
    show Steps p.tables e below (T2.setTop (mkF m 77 #[.val (.long q1), .second, .val (.long q2), .second, .val (.long q3), .second, .val (.long q4), .second, .val (.long q5), .second, .val (.int p6), .val (.ref b1), .val (.int (p6 &&& (15 : Int32))), .val (.long (own_b p6 (1 : Int32) q1 q5)), .second, .val (.long (own_b p6 (2 : Int32) q2 q5)), .second, .val (.long (own_b p6 (4 : Int32) q3 q5)), .second, .unset, .unset, .unset, .unset, .unset] [(.int (p6 &&& (15 : Int32)))])) _
    refine XS.bipush X2.here hx rfl (hb hby at_77) ?_
    show Steps p.tables e below (T2.setTop (mkF m 79 #[.val (.long q1), .second, .val (.long q2), .second, .val (.long q3), .second, .val (.long q4), .second, .val (.long q5), .second, .val (.int p6), .val (.ref b1), .val (.int (p6 &&& (15 : Int32))), .val (.long (own_b p6 (1 : Int32) q1 q5)), .second, .val (.long (own_b p6 (2 : Int32) q2 q5)), .second, .val (.long (own_b p6 (4 : Int32) q3 q5)), .second, .unset, .unset, .unset, .unset, .unset] [(.int (8 : Int32)), (.int (p6 &&& (15 : Int32)))])) _
    refine XS.iand X2.here hx rfl (hb hby at_79) rfl ?_
    show Steps p.tables e below (T2.setTop (mkF m 80 #[.val (.long q1), .second, .val (.long q2), .second, .val (.long q3), .second, .val (.long q4), .second, .val (.long q5), .second, .val (.int p6), .val (.ref b1), .val (.int (p6 &&& (15 : Int32))), .val (.long (own_b p6 (1 : Int32) q1 q5)), .second, .val (.long (own_b p6 (2 : Int32) q2 q5)), .second, .val (.long (own_b p6 (4 : Int32) q3 q5)), .second, .unset, .unset, .unset, .unset, .unset] [(.int ((p6 &&& (15 : Int32)) &&& (8 : Int32)))])) _
    refine dm6 _ ?_
    show Steps p.tables e below (T2.setTop (mkF m 93 #[.val (.long q1), .second, .val (.long q2), .second, .val (.long q3), .second, .val (.long q4), .second, .val (.long q5), .second, .val (.int p6), .val (.ref b1), .val (.int (p6 &&& (15 : Int32))), .val (.long (own_b p6 (1 : Int32) q1 q5)), .second, .val (.long (own_b p6 (2 : Int32) q2 q5)), .second, .val (.long (own_b p6 (4 : Int32) q3 q5)), .second, .unset, .unset, .unset, .unset, .unset] [(.long (own_b p6 (8 : Int32) q4 q5))])) _
    refine XS.lstore X2.here hx rfl (hb hby at_93) rfl (l' := #[.val (.long q1), .second, .val (.long q2), .second, .val (.long q3), .second, .val (.long q4), .second, .val (.long q5), .second, .val (.int p6), .val (.ref b1), .val (.int (p6 &&& (15 : Int32))), .val (.long (own_b p6 (1 : Int32) q1 q5)), .second, .val (.long (own_b p6 (2 : Int32) q2 q5)), .second, .val (.long (own_b p6 (4 : Int32) q3 q5)), .second, .val (.long (own_b p6 (8 : Int32) q4 q5)), .second, .unset, .unset, .unset]) rfl ?_
    show Steps p.tables e below (T2.setTop (mkF m 95 #[.val (.long q1), .second, .val (.long q2), .second, .val (.long q3), .second, .val (.long q4), .second, .val (.long q5), .second, .val (.int p6), .val (.ref b1), .val (.int (p6 &&& (15 : Int32))), .val (.long (own_b p6 (1 : Int32) q1 q5)), .second, .val (.long (own_b p6 (2 : Int32) q2 q5)), .second, .val (.long (own_b p6 (4 : Int32) q3 q5)), .second, .val (.long (own_b p6 (8 : Int32) q4 q5)), .second, .unset, .unset, .unset] [])) _
    refine st7 _ ?_
    show Steps p.tables e below (T7.setTop (mkF m 98 #[.val (.long q1), .second, .val (.long q2), .second, .val (.long q3), .second, .val (.long q4), .second, .val (.long q5), .second, .val (.int p6), .val (.ref b1), .val (.int (p6 &&& (15 : Int32))), .val (.long (own_b p6 (1 : Int32) q1 q5)), .second, .val (.long (own_b p6 (2 : Int32) q2 q5)), .second, .val (.long (own_b p6 (4 : Int32) q3 q5)), .second, .val (.long (own_b p6 (8 : Int32) q4 q5)), .second, .unset, .unset, .unset] [(.ref b7)])) _
    refine XS.dup X7.here hx rfl (hb hby at_98) rfl rfl ?_
    show Steps p.tables e below (T7.setTop (mkF m 99 #[.val (.long q1), .second, .val (.long q2), .second, .val (.long q3), .second, .val (.long q4), .second, .val (.long q5), .second, .val (.int p6), .val (.ref b1), .val (.int (p6 &&& (15 : Int32))), .val (.long (own_b p6 (1 : Int32) q1 q5)), .second, .val (.long (own_b p6 (2 : Int32) q2 q5)), .second, .val (.long (own_b p6 (4 : Int32) q3 q5)), .second, .val (.long (own_b p6 (8 : Int32) q4 q5)), .second, .unset, .unset, .unset] [(.ref b7), (.ref b7)])) _
    refine XS.lload X7.here hx rfl (hb hby at_99) rfl ?_
    show Steps p.tables e below (T7.setTop (mkF m 101 #[.val (.long q1), .second, .val (.long q2), .second, .val (.long q3), .second, .val (.long q4), .second, .val (.long q5), .second, .val (.int p6), .val (.ref b1), .val (.int (p6 &&& (15 : Int32))), .val (.long (own_b p6 (1 : Int32) q1 q5)), .second, .val (.long (own_b p6 (2 : Int32) q2 q5)), .second, .val (.long (own_b p6 (4 : Int32) q3 q5)), .second, .val (.long (own_b p6 (8 : Int32) q4 q5)), .second, .unset, .unset, .unset] [(.long (own_b p6 (1 : Int32) q1 q5)), (.ref b7), (.ref b7)])) _
    refine XS.lload X7.here hx rfl (hb hby at_101) rfl ?_
    show Steps p.tables e below (T7.setTop (mkF m 103 #[.val (.long q1), .second, .val (.long q2), .second, .val (.long q3), .second, .val (.long q4), .second, .val (.long q5), .second, .val (.int p6), .val (.ref b1), .val (.int (p6 &&& (15 : Int32))), .val (.long (own_b p6 (1 : Int32) q1 q5)), .second, .val (.long (own_b p6 (2 : Int32) q2 q5)), .second, .val (.long (own_b p6 (4 : Int32) q3 q5)), .second, .val (.long (own_b p6 (8 : Int32) q4 q5)), .second, .unset, .unset, .unset] [(.long (own_b p6 (2 : Int32) q2 q5)), (.long (own_b p6 (1 : Int32) q1 q5)), (.ref b7), (.ref b7)])) _
    refine XS.lload X7.here hx rfl (hb hby at_103) rfl ?_
    show Steps p.tables e below (T7.setTop (mkF m 105 #[.val (.long q1), .second, .val (.long q2), .second, .val (.long q3), .second, .val (.long q4), .second, .val (.long q5), .second, .val (.int p6), .val (.ref b1), .val (.int (p6 &&& (15 : Int32))), .val (.long (own_b p6 (1 : Int32) q1 q5)), .second, .val (.long (own_b p6 (2 : Int32) q2 q5)), .second, .val (.long (own_b p6 (4 : Int32) q3 q5)), .second, .val (.long (own_b p6 (8 : Int32) q4 q5)), .second, .unset, .unset, .unset] [(.long (own_b p6 (4 : Int32) q3 q5)), (.long (own_b p6 (2 : Int32) q2 q5)), (.long (own_b p6 (1 : Int32) q1 q5)), (.ref b7), (.ref b7)])) _
    refine XS.lload X7.here hx rfl (hb hby at_105) rfl ?_
    show Steps p.tables e below (T7.setTop (mkF m 107 #[.val (.long q1), .second, .val (.long q2), .second, .val (.long q3), .second, .val (.long q4), .second, .val (.long q5), .second, .val (.int p6), .val (.ref b1), .val (.int (p6 &&& (15 : Int32))), .val (.long (own_b p6 (1 : Int32) q1 q5)), .second, .val (.long (own_b p6 (2 : Int32) q2 q5)), .second, .val (.long (own_b p6 (4 : Int32) q3 q5)), .second, .val (.long (own_b p6 (8 : Int32) q4 q5)), .second, .unset, .unset, .unset] [(.long (own_b p6 (8 : Int32) q4 q5)), (.long (own_b p6 (4 : Int32) q3 q5)), (.long (own_b p6 (2 : Int32) q2 q5)), (.long (own_b p6 (1 : Int32) q1 q5)), (.ref b7), (.ref b7)])) _
    refine st8.trans ?_
    show Steps p.tables e below (T8.setTop (mkF m 110 #[.val (.long q1), .second, .val (.long q2), .second, .val (.long q3), .second, .val (.long q4), .second, .val (.long q5), .second, .val (.int p6), .val (.ref b1), .val (.int (p6 &&& (15 : Int32))), .val (.long (own_b p6 (1 : Int32) q1 q5)), .second, .val (.long (own_b p6 (2 : Int32) q2 q5)), .second, .val (.long (own_b p6 (4 : Int32) q3 q5)), .second, .val (.long (own_b p6 (8 : Int32) q4 q5)), .second, .unset, .unset, .unset] [(.ref b7)])) _
    refine XS.astore X8.here hx rfl (hb hby at_110) rfl rfl (l' := #[.val (.long q1), .second, .val (.long q2), .second, .val (.long q3), .second, .val (.long q4), .second, .val (.long q5), .second, .val (.int p6), .val (.ref b1), .val (.int (p6 &&& (15 : Int32))), .val (.long (own_b p6 (1 : Int32) q1 q5)), .second, .val (.long (own_b p6 (2 : Int32) q2 q5)), .second, .val (.long (own_b p6 (4 : Int32) q3 q5)), .second, .val (.long (own_b p6 (8 : Int32) q4 q5)), .second, .val (.ref b7), .unset, .unset]) rfl ?_
    show Steps p.tables e below (T8.setTop (mkF m 112 #[.val (.long q1), .second, .val (.long q2), .second, .val (.long q3), .second, .val (.long q4), .second, .val (.long q5), .second, .val (.int p6), .val (.ref b1), .val (.int (p6 &&& (15 : Int32))), .val (.long (own_b p6 (1 : Int32) q1 q5)), .second, .val (.long (own_b p6 (2 : Int32) q2 q5)), .second, .val (.long (own_b p6 (4 : Int32) q3 q5)), .second, .val (.long (own_b p6 (8 : Int32) q4 q5)), .second, .val (.ref b7), .unset, .unset] [])) _
    refine XS.iload X8.here hx rfl (hb hby at_112) rfl ?_
    show Steps p.tables e below (T8.setTop (mkF m 114 #[.val (.long q1), .second, .val (.long q2), .second, .val (.long q3), .second, .val (.long q4), .second, .val (.long q5), .second, .val (.int p6), .val (.ref b1), .val (.int (p6 &&& (15 : Int32))), .val (.long (own_b p6 (1 : Int32) q1 q5)), .second, .val (.long (own_b p6 (2 : Int32) q2 q5)), .second, .val (.long (own_b p6 (4 : Int32) q3 q5)), .second, .val (.long (own_b p6 (8 : Int32) q4 q5)), .second, .val (.ref b7), .unset, .unset] [(.int p6)])) _
    refine XS.iconst X8.here hx rfl (hb hby at_114) ?_
    show Steps p.tables e below (T8.setTop (mkF m 115 #[.val (.long q1), .second, .val (.long q2), .second, .val (.long q3), .second, .val (.long q4), .second, .val (.long q5), .second, .val (.int p6), .val (.ref b1), .val (.int (p6 &&& (15 : Int32))), .val (.long (own_b p6 (1 : Int32) q1 q5)), .second, .val (.long (own_b p6 (2 : Int32) q2 q5)), .second, .val (.long (own_b p6 (4 : Int32) q3 q5)), .second, .val (.long (own_b p6 (8 : Int32) q4 q5)), .second, .val (.ref b7), .unset, .unset] [(.int (4 : Int32)), (.int p6)])) _
    refine XS.iushr X8.here hx rfl (hb hby at_115) rfl ?_
    show Steps p.tables e below (T8.setTop (mkF m 116 #[.val (.long q1), .second, .val (.long q2), .second, .val (.long q3), .second, .val (.long q4), .second, .val (.long q5), .second, .val (.int p6), .val (.ref b1), .val (.int (p6 &&& (15 : Int32))), .val (.long (own_b p6 (1 : Int32) q1 q5)), .second, .val (.long (own_b p6 (2 : Int32) q2 q5)), .second, .val (.long (own_b p6 (4 : Int32) q3 q5)), .second, .val (.long (own_b p6 (8 : Int32) q4 q5)), .second, .val (.ref b7), .unset, .unset] [(.int ((p6.toUInt32 >>> ((4 : Int32) &&& 31).toUInt32).toInt32))])) _
    refine XS.iconst X8.here hx rfl (hb hby at_116) ?_
    show Steps p.tables e below (T8.setTop (mkF m 117 #[.val (.long q1), .second, .val (.long q2), .second, .val (.long q3), .second, .val (.long q4), .second, .val (.long q5), .second, .val (.int p6), .val (.ref b1), .val (.int (p6 &&& (15 : Int32))), .val (.long (own_b p6 (1 : Int32) q1 q5)), .second, .val (.long (own_b p6 (2 : Int32) q2 q5)), .second, .val (.long (own_b p6 (4 : Int32) q3 q5)), .second, .val (.long (own_b p6 (8 : Int32) q4 q5)), .second, .val (.ref b7), .unset, .unset] [(.int (3 : Int32)), (.int ((p6.toUInt32 >>> ((4 : Int32) &&& 31).toUInt32).toInt32))])) _
    refine XS.iand X8.here hx rfl (hb hby at_117) rfl ?_
    show Steps p.tables e below (T8.setTop (mkF m 118 #[.val (.long q1), .second, .val (.long q2), .second, .val (.long q3), .second, .val (.long q4), .second, .val (.long q5), .second, .val (.int p6), .val (.ref b1), .val (.int (p6 &&& (15 : Int32))), .val (.long (own_b p6 (1 : Int32) q1 q5)), .second, .val (.long (own_b p6 (2 : Int32) q2 q5)), .second, .val (.long (own_b p6 (4 : Int32) q3 q5)), .second, .val (.long (own_b p6 (8 : Int32) q4 q5)), .second, .val (.ref b7), .unset, .unset] [(.int (((p6.toUInt32 >>> ((4 : Int32) &&& 31).toUInt32).toInt32) &&& (3 : Int32)))])) _
    rw [P1]
    show Steps p.tables e below (T8.setTop (mkF m 118 #[.val (.long q1), .second, .val (.long q2), .second, .val (.long q3), .second, .val (.long q4), .second, .val (.long q5), .second, .val (.int p6), .val (.ref b1), .val (.int (p6 &&& (15 : Int32))), .val (.long (own_b p6 (1 : Int32) q1 q5)), .second, .val (.long (own_b p6 (2 : Int32) q2 q5)), .second, .val (.long (own_b p6 (4 : Int32) q3 q5)), .second, .val (.long (own_b p6 (8 : Int32) q4 q5)), .second, .val (.ref b7), .unset, .unset] [(.int (0 : Int32))])) _
    refine XS.istore X8.here hx rfl (hb hby at_118) rfl (l' := #[.val (.long q1), .second, .val (.long q2), .second, .val (.long q3), .second, .val (.long q4), .second, .val (.long q5), .second, .val (.int p6), .val (.ref b1), .val (.int (p6 &&& (15 : Int32))), .val (.long (own_b p6 (1 : Int32) q1 q5)), .second, .val (.long (own_b p6 (2 : Int32) q2 q5)), .second, .val (.long (own_b p6 (4 : Int32) q3 q5)), .second, .val (.long (own_b p6 (8 : Int32) q4 q5)), .second, .val (.ref b7), .val (.int (0 : Int32)), .unset]) rfl ?_
    show Steps p.tables e below (T8.setTop (mkF m 120 #[.val (.long q1), .second, .val (.long q2), .second, .val (.long q3), .second, .val (.long q4), .second, .val (.long q5), .second, .val (.int p6), .val (.ref b1), .val (.int (p6 &&& (15 : Int32))), .val (.long (own_b p6 (1 : Int32) q1 q5)), .second, .val (.long (own_b p6 (2 : Int32) q2 q5)), .second, .val (.long (own_b p6 (4 : Int32) q3 q5)), .second, .val (.long (own_b p6 (8 : Int32) q4 q5)), .second, .val (.ref b7), .val (.int (0 : Int32)), .unset] [])) _
    refine XS.iload X8.here hx rfl (hb hby at_120) rfl ?_
    show Steps p.tables e below (T8.setTop (mkF m 122 #[.val (.long q1), .second, .val (.long q2), .second, .val (.long q3), .second, .val (.long q4), .second, .val (.long q5), .second, .val (.int p6), .val (.ref b1), .val (.int (p6 &&& (15 : Int32))), .val (.long (own_b p6 (1 : Int32) q1 q5)), .second, .val (.long (own_b p6 (2 : Int32) q2 q5)), .second, .val (.long (own_b p6 (4 : Int32) q3 q5)), .second, .val (.long (own_b p6 (8 : Int32) q4 q5)), .second, .val (.ref b7), .val (.int (0 : Int32)), .unset] [(.int (0 : Int32))])) _
    refine XS.iconst X8.here hx rfl (hb hby at_122) ?_
    show Steps p.tables e below (T8.setTop (mkF m 123 #[.val (.long q1), .second, .val (.long q2), .second, .val (.long q3), .second, .val (.long q4), .second, .val (.long q5), .second, .val (.int p6), .val (.ref b1), .val (.int (p6 &&& (15 : Int32))), .val (.long (own_b p6 (1 : Int32) q1 q5)), .second, .val (.long (own_b p6 (2 : Int32) q2 q5)), .second, .val (.long (own_b p6 (4 : Int32) q3 q5)), .second, .val (.long (own_b p6 (8 : Int32) q4 q5)), .second, .val (.ref b7), .val (.int (0 : Int32)), .unset] [(.int (1 : Int32)), (.int (0 : Int32))])) _
    refine XS.icmpYes X8.here hx rfl (pc0 := 123) (pc' := 141) rfl (hb hby at_123) rfl (by decide) (by decide) (by decide) ?_
    show Steps p.tables e below (T8.setTop (mkF m 141 #[.val (.long q1), .second, .val (.long q2), .second, .val (.long q3), .second, .val (.long q4), .second, .val (.long q5), .second, .val (.int p6), .val (.ref b1), .val (.int (p6 &&& (15 : Int32))), .val (.long (own_b p6 (1 : Int32) q1 q5)), .second, .val (.long (own_b p6 (2 : Int32) q2 q5)), .second, .val (.long (own_b p6 (4 : Int32) q3 q5)), .second, .val (.long (own_b p6 (8 : Int32) q4 q5)), .second, .val (.ref b7), .val (.int (0 : Int32)), .unset] [])) _
    refine XS.iload X8.here hx rfl (hb hby at_141) rfl ?_
    show Steps p.tables e below (T8.setTop (mkF m 143 #[.val (.long q1), .second, .val (.long q2), .second, .val (.long q3), .second, .val (.long q4), .second, .val (.long q5), .second, .val (.int p6), .val (.ref b1), .val (.int (p6 &&& (15 : Int32))), .val (.long (own_b p6 (1 : Int32) q1 q5)), .second, .val (.long (own_b p6 (2 : Int32) q2 q5)), .second, .val (.long (own_b p6 (4 : Int32) q3 q5)), .second, .val (.long (own_b p6 (8 : Int32) q4 q5)), .second, .val (.ref b7), .val (.int (0 : Int32)), .unset] [(.int (0 : Int32))])) _
    refine XS.iconst X8.here hx rfl (hb hby at_143) ?_
    show Steps p.tables e below (T8.setTop (mkF m 144 #[.val (.long q1), .second, .val (.long q2), .second, .val (.long q3), .second, .val (.long q4), .second, .val (.long q5), .second, .val (.int p6), .val (.ref b1), .val (.int (p6 &&& (15 : Int32))), .val (.long (own_b p6 (1 : Int32) q1 q5)), .second, .val (.long (own_b p6 (2 : Int32) q2 q5)), .second, .val (.long (own_b p6 (4 : Int32) q3 q5)), .second, .val (.long (own_b p6 (8 : Int32) q4 q5)), .second, .val (.ref b7), .val (.int (0 : Int32)), .unset] [(.int (2 : Int32)), (.int (0 : Int32))])) _
    refine XS.icmpYes X8.here hx rfl (pc0 := 144) (pc' := 165) rfl (hb hby at_144) rfl (by decide) (by decide) (by decide) ?_
    show Steps p.tables e below (T8.setTop (mkF m 165 #[.val (.long q1), .second, .val (.long q2), .second, .val (.long q3), .second, .val (.long q4), .second, .val (.long q5), .second, .val (.int p6), .val (.ref b1), .val (.int (p6 &&& (15 : Int32))), .val (.long (own_b p6 (1 : Int32) q1 q5)), .second, .val (.long (own_b p6 (2 : Int32) q2 q5)), .second, .val (.long (own_b p6 (4 : Int32) q3 q5)), .second, .val (.long (own_b p6 (8 : Int32) q4 q5)), .second, .val (.ref b7), .val (.int (0 : Int32)), .unset] [])) _
    refine XS.iload X8.here hx rfl (hb hby at_165) rfl ?_
    show Steps p.tables e below (T8.setTop (mkF m 167 #[.val (.long q1), .second, .val (.long q2), .second, .val (.long q3), .second, .val (.long q4), .second, .val (.long q5), .second, .val (.int p6), .val (.ref b1), .val (.int (p6 &&& (15 : Int32))), .val (.long (own_b p6 (1 : Int32) q1 q5)), .second, .val (.long (own_b p6 (2 : Int32) q2 q5)), .second, .val (.long (own_b p6 (4 : Int32) q3 q5)), .second, .val (.long (own_b p6 (8 : Int32) q4 q5)), .second, .val (.ref b7), .val (.int (0 : Int32)), .unset] [(.int (0 : Int32))])) _
    refine XS.iconst X8.here hx rfl (hb hby at_167) ?_
    show Steps p.tables e below (T8.setTop (mkF m 168 #[.val (.long q1), .second, .val (.long q2), .second, .val (.long q3), .second, .val (.long q4), .second, .val (.long q5), .second, .val (.int p6), .val (.ref b1), .val (.int (p6 &&& (15 : Int32))), .val (.long (own_b p6 (1 : Int32) q1 q5)), .second, .val (.long (own_b p6 (2 : Int32) q2 q5)), .second, .val (.long (own_b p6 (4 : Int32) q3 q5)), .second, .val (.long (own_b p6 (8 : Int32) q4 q5)), .second, .val (.ref b7), .val (.int (0 : Int32)), .unset] [(.int (3 : Int32)), (.int (0 : Int32))])) _
    refine XS.icmpYes X8.here hx rfl (pc0 := 168) (pc' := 179) rfl (hb hby at_168) rfl (by decide) (by decide) (by decide) ?_
    show Steps p.tables e below (T8.setTop (mkF m 179 #[.val (.long q1), .second, .val (.long q2), .second, .val (.long q3), .second, .val (.long q4), .second, .val (.long q5), .second, .val (.int p6), .val (.ref b1), .val (.int (p6 &&& (15 : Int32))), .val (.long (own_b p6 (1 : Int32) q1 q5)), .second, .val (.long (own_b p6 (2 : Int32) q2 q5)), .second, .val (.long (own_b p6 (4 : Int32) q3 q5)), .second, .val (.long (own_b p6 (8 : Int32) q4 q5)), .second, .val (.ref b7), .val (.int (0 : Int32)), .unset] [])) _
    refine XS.iload X8.here hx rfl (hb hby at_179) rfl ?_
    show Steps p.tables e below (T8.setTop (mkF m 181 #[.val (.long q1), .second, .val (.long q2), .second, .val (.long q3), .second, .val (.long q4), .second, .val (.long q5), .second, .val (.int p6), .val (.ref b1), .val (.int (p6 &&& (15 : Int32))), .val (.long (own_b p6 (1 : Int32) q1 q5)), .second, .val (.long (own_b p6 (2 : Int32) q2 q5)), .second, .val (.long (own_b p6 (4 : Int32) q3 q5)), .second, .val (.long (own_b p6 (8 : Int32) q4 q5)), .second, .val (.ref b7), .val (.int (0 : Int32)), .unset] [(.int (p6 &&& (15 : Int32)))])) _
    refine XS.ifNo X8.here hx rfl (hb hby at_181) rfl ((if0 _ _).trans (feq P2).1) ?_
    show Steps p.tables e below (T8.setTop (mkF m 184 #[.val (.long q1), .second, .val (.long q2), .second, .val (.long q3), .second, .val (.long q4), .second, .val (.long q5), .second, .val (.int p6), .val (.ref b1), .val (.int (p6 &&& (15 : Int32))), .val (.long (own_b p6 (1 : Int32) q1 q5)), .second, .val (.long (own_b p6 (2 : Int32) q2 q5)), .second, .val (.long (own_b p6 (4 : Int32) q3 q5)), .second, .val (.long (own_b p6 (8 : Int32) q4 q5)), .second, .val (.ref b7), .val (.int (0 : Int32)), .unset] [])) _
    refine XS.lload X8.here hx rfl (hb hby at_184) rfl ?_
    show Steps p.tables e below (T8.setTop (mkF m 186 #[.val (.long q1), .second, .val (.long q2), .second, .val (.long q3), .second, .val (.long q4), .second, .val (.long q5), .second, .val (.int p6), .val (.ref b1), .val (.int (p6 &&& (15 : Int32))), .val (.long (own_b p6 (1 : Int32) q1 q5)), .second, .val (.long (own_b p6 (2 : Int32) q2 q5)), .second, .val (.long (own_b p6 (4 : Int32) q3 q5)), .second, .val (.long (own_b p6 (8 : Int32) q4 q5)), .second, .val (.ref b7), .val (.int (0 : Int32)), .unset] [(.long q5)])) _
    refine XS.lconst X8.here hx rfl (hb hby at_186) ?_
    show Steps p.tables e below (T8.setTop (mkF m 187 #[.val (.long q1), .second, .val (.long q2), .second, .val (.long q3), .second, .val (.long q4), .second, .val (.long q5), .second, .val (.int p6), .val (.ref b1), .val (.int (p6 &&& (15 : Int32))), .val (.long (own_b p6 (1 : Int32) q1 q5)), .second, .val (.long (own_b p6 (2 : Int32) q2 q5)), .second, .val (.long (own_b p6 (4 : Int32) q3 q5)), .second, .val (.long (own_b p6 (8 : Int32) q4 q5)), .second, .val (.ref b7), .val (.int (0 : Int32)), .unset] [(.long (0 : Int64)), (.long q5)])) _
    refine XS.lcmp X8.here hx rfl (hb hby at_187) rfl ?_
    show Steps p.tables e below (T8.setTop (mkF m 188 #[.val (.long q1), .second, .val (.long q2), .second, .val (.long q3), .second, .val (.long q4), .second, .val (.long q5), .second, .val (.int p6), .val (.ref b1), .val (.int (p6 &&& (15 : Int32))), .val (.long (own_b p6 (1 : Int32) q1 q5)), .second, .val (.long (own_b p6 (2 : Int32) q2 q5)), .second, .val (.long (own_b p6 (4 : Int32) q3 q5)), .second, .val (.long (own_b p6 (8 : Int32) q4 q5)), .second, .val (.ref b7), .val (.int (0 : Int32)), .unset] [(.int (lcmpW q5 (0 : Int64)))])) _
    refine XS.ifYes X8.here hx rfl (pc0 := 188) (pc' := 195) rfl (hb hby at_188) rfl ((if0 _ _).trans (feq P3).2) (by decide) (by decide) ?_
    show Steps p.tables e below (T8.setTop (mkF m 195 #[.val (.long q1), .second, .val (.long q2), .second, .val (.long q3), .second, .val (.long q4), .second, .val (.long q5), .second, .val (.int p6), .val (.ref b1), .val (.int (p6 &&& (15 : Int32))), .val (.long (own_b p6 (1 : Int32) q1 q5)), .second, .val (.long (own_b p6 (2 : Int32) q2 q5)), .second, .val (.long (own_b p6 (4 : Int32) q3 q5)), .second, .val (.long (own_b p6 (8 : Int32) q4 q5)), .second, .val (.ref b7), .val (.int (0 : Int32)), .unset] [])) _
    refine XS.iconst X8.here hx rfl (hb hby at_195) ?_
    show Steps p.tables e below (T8.setTop (mkF m 196 #[.val (.long q1), .second, .val (.long q2), .second, .val (.long q3), .second, .val (.long q4), .second, .val (.long q5), .second, .val (.int p6), .val (.ref b1), .val (.int (p6 &&& (15 : Int32))), .val (.long (own_b p6 (1 : Int32) q1 q5)), .second, .val (.long (own_b p6 (2 : Int32) q2 q5)), .second, .val (.long (own_b p6 (4 : Int32) q3 q5)), .second, .val (.long (own_b p6 (8 : Int32) q4 q5)), .second, .val (.ref b7), .val (.int (0 : Int32)), .unset] [(.int (0 : Int32))])) _
    refine XS.istore X8.here hx rfl (hb hby at_196) rfl (l' := #[.val (.long q1), .second, .val (.long q2), .second, .val (.long q3), .second, .val (.long q4), .second, .val (.long q5), .second, .val (.int p6), .val (.ref b1), .val (.int (p6 &&& (15 : Int32))), .val (.long (own_b p6 (1 : Int32) q1 q5)), .second, .val (.long (own_b p6 (2 : Int32) q2 q5)), .second, .val (.long (own_b p6 (4 : Int32) q3 q5)), .second, .val (.long (own_b p6 (8 : Int32) q4 q5)), .second, .val (.ref b7), .val (.int (0 : Int32)), .val (.int (0 : Int32))]) rfl ?_
    show Steps p.tables e below (T8.setTop (mkF m 198 #[.val (.long q1), .second, .val (.long q2), .second, .val (.long q3), .second, .val (.long q4), .second, .val (.long q5), .second, .val (.int p6), .val (.ref b1), .val (.int (p6 &&& (15 : Int32))), .val (.long (own_b p6 (1 : Int32) q1 q5)), .second, .val (.long (own_b p6 (2 : Int32) q2 q5)), .second, .val (.long (own_b p6 (4 : Int32) q3 q5)), .second, .val (.long (own_b p6 (8 : Int32) q4 q5)), .second, .val (.ref b7), .val (.int (0 : Int32)), .val (.int (0 : Int32))] [])) _
    refine XS.aload X8.here hx rfl (hb hby at_198) rfl rfl ?_
    show Steps p.tables e below (T8.setTop (mkF m 200 #[.val (.long q1), .second, .val (.long q2), .second, .val (.long q3), .second, .val (.long q4), .second, .val (.long q5), .second, .val (.int p6), .val (.ref b1), .val (.int (p6 &&& (15 : Int32))), .val (.long (own_b p6 (1 : Int32) q1 q5)), .second, .val (.long (own_b p6 (2 : Int32) q2 q5)), .second, .val (.long (own_b p6 (4 : Int32) q3 q5)), .second, .val (.long (own_b p6 (8 : Int32) q4 q5)), .second, .val (.ref b7), .val (.int (0 : Int32)), .val (.int (0 : Int32))] [(.ref b1)])) _
    refine XS.aload X8.here hx rfl (hb hby at_200) rfl rfl ?_
    show Steps p.tables e below (T8.setTop (mkF m 202 #[.val (.long q1), .second, .val (.long q2), .second, .val (.long q3), .second, .val (.long q4), .second, .val (.long q5), .second, .val (.int p6), .val (.ref b1), .val (.int (p6 &&& (15 : Int32))), .val (.long (own_b p6 (1 : Int32) q1 q5)), .second, .val (.long (own_b p6 (2 : Int32) q2 q5)), .second, .val (.long (own_b p6 (4 : Int32) q3 q5)), .second, .val (.long (own_b p6 (8 : Int32) q4 q5)), .second, .val (.ref b7), .val (.int (0 : Int32)), .val (.int (0 : Int32))] [(.ref b7), (.ref b1)])) _
    refine st10.trans ?_
    show Steps p.tables e below (T10.setTop (mkF m 205 #[.val (.long q1), .second, .val (.long q2), .second, .val (.long q3), .second, .val (.long q4), .second, .val (.long q5), .second, .val (.int p6), .val (.ref b1), .val (.int (p6 &&& (15 : Int32))), .val (.long (own_b p6 (1 : Int32) q1 q5)), .second, .val (.long (own_b p6 (2 : Int32) q2 q5)), .second, .val (.long (own_b p6 (4 : Int32) q3 q5)), .second, .val (.long (own_b p6 (8 : Int32) q4 q5)), .second, .val (.ref b7), .val (.int (0 : Int32)), .val (.int (0 : Int32))] [(.int (0 : Int32))])) _
    refine XS.iload X10.here hx rfl (hb hby at_205) rfl ?_
    show Steps p.tables e below (T10.setTop (mkF m 207 #[.val (.long q1), .second, .val (.long q2), .second, .val (.long q3), .second, .val (.long q4), .second, .val (.long q5), .second, .val (.int p6), .val (.ref b1), .val (.int (p6 &&& (15 : Int32))), .val (.long (own_b p6 (1 : Int32) q1 q5)), .second, .val (.long (own_b p6 (2 : Int32) q2 q5)), .second, .val (.long (own_b p6 (4 : Int32) q3 q5)), .second, .val (.long (own_b p6 (8 : Int32) q4 q5)), .second, .val (.ref b7), .val (.int (0 : Int32)), .val (.int (0 : Int32))] [(.int (0 : Int32)), (.int (0 : Int32))])) _
    refine XS.icmpNo X10.here hx rfl (hb hby at_207) rfl (by decide) ?_
    show Steps p.tables e below (T10.setTop (mkF m 210 #[.val (.long q1), .second, .val (.long q2), .second, .val (.long q3), .second, .val (.long q4), .second, .val (.long q5), .second, .val (.int p6), .val (.ref b1), .val (.int (p6 &&& (15 : Int32))), .val (.long (own_b p6 (1 : Int32) q1 q5)), .second, .val (.long (own_b p6 (2 : Int32) q2 q5)), .second, .val (.long (own_b p6 (4 : Int32) q3 q5)), .second, .val (.long (own_b p6 (8 : Int32) q4 q5)), .second, .val (.ref b7), .val (.int (0 : Int32)), .val (.int (0 : Int32))] [])) _
    refine XS.aload X10.here hx rfl (hb hby at_210) rfl rfl ?_
    show Steps p.tables e below (T10.setTop (mkF m 212 #[.val (.long q1), .second, .val (.long q2), .second, .val (.long q3), .second, .val (.long q4), .second, .val (.long q5), .second, .val (.int p6), .val (.ref b1), .val (.int (p6 &&& (15 : Int32))), .val (.long (own_b p6 (1 : Int32) q1 q5)), .second, .val (.long (own_b p6 (2 : Int32) q2 q5)), .second, .val (.long (own_b p6 (4 : Int32) q3 q5)), .second, .val (.long (own_b p6 (8 : Int32) q4 q5)), .second, .val (.ref b7), .val (.int (0 : Int32)), .val (.int (0 : Int32))] [(.ref b7)])) _
    refine XS.aload X10.here hx rfl (hb hby at_212) rfl rfl ?_
    show Steps p.tables e below (T10.setTop (mkF m 214 #[.val (.long q1), .second, .val (.long q2), .second, .val (.long q3), .second, .val (.long q4), .second, .val (.long q5), .second, .val (.int p6), .val (.ref b1), .val (.int (p6 &&& (15 : Int32))), .val (.long (own_b p6 (1 : Int32) q1 q5)), .second, .val (.long (own_b p6 (2 : Int32) q2 q5)), .second, .val (.long (own_b p6 (4 : Int32) q3 q5)), .second, .val (.long (own_b p6 (8 : Int32) q4 q5)), .second, .val (.ref b7), .val (.int (0 : Int32)), .val (.int (0 : Int32))] [(.ref b1), (.ref b7)])) _
    refine st11.trans ?_
    show Steps p.tables e below (T11.setTop (mkF m 217 #[.val (.long q1), .second, .val (.long q2), .second, .val (.long q3), .second, .val (.long q4), .second, .val (.long q5), .second, .val (.int p6), .val (.ref b1), .val (.int (p6 &&& (15 : Int32))), .val (.long (own_b p6 (1 : Int32) q1 q5)), .second, .val (.long (own_b p6 (2 : Int32) q2 q5)), .second, .val (.long (own_b p6 (4 : Int32) q3 q5)), .second, .val (.long (own_b p6 (8 : Int32) q4 q5)), .second, .val (.ref b7), .val (.int (0 : Int32)), .val (.int (0 : Int32))] [(.int (0 : Int32))])) _
    refine XS.iload X11.here hx rfl (hb hby at_217) rfl ?_
    show Steps p.tables e below (T11.setTop (mkF m 219 #[.val (.long q1), .second, .val (.long q2), .second, .val (.long q3), .second, .val (.long q4), .second, .val (.long q5), .second, .val (.int p6), .val (.ref b1), .val (.int (p6 &&& (15 : Int32))), .val (.long (own_b p6 (1 : Int32) q1 q5)), .second, .val (.long (own_b p6 (2 : Int32) q2 q5)), .second, .val (.long (own_b p6 (4 : Int32) q3 q5)), .second, .val (.long (own_b p6 (8 : Int32) q4 q5)), .second, .val (.ref b7), .val (.int (0 : Int32)), .val (.int (0 : Int32))] [(.int (0 : Int32)), (.int (0 : Int32))])) _
    refine XS.icmpNo X11.here hx rfl (hb hby at_219) rfl (by decide) ?_
    show Steps p.tables e below (T11.setTop (mkF m 222 #[.val (.long q1), .second, .val (.long q2), .second, .val (.long q3), .second, .val (.long q4), .second, .val (.long q5), .second, .val (.int p6), .val (.ref b1), .val (.int (p6 &&& (15 : Int32))), .val (.long (own_b p6 (1 : Int32) q1 q5)), .second, .val (.long (own_b p6 (2 : Int32) q2 q5)), .second, .val (.long (own_b p6 (4 : Int32) q3 q5)), .second, .val (.long (own_b p6 (8 : Int32) q4 q5)), .second, .val (.ref b7), .val (.int (0 : Int32)), .val (.int (0 : Int32))] [])) _
    refine XS.iconst X11.here hx rfl (hb hby at_222) ?_
    show Steps p.tables e below (T11.setTop (mkF m 223 #[.val (.long q1), .second, .val (.long q2), .second, .val (.long q3), .second, .val (.long q4), .second, .val (.long q5), .second, .val (.int p6), .val (.ref b1), .val (.int (p6 &&& (15 : Int32))), .val (.long (own_b p6 (1 : Int32) q1 q5)), .second, .val (.long (own_b p6 (2 : Int32) q2 q5)), .second, .val (.long (own_b p6 (4 : Int32) q3 q5)), .second, .val (.long (own_b p6 (8 : Int32) q4 q5)), .second, .val (.ref b7), .val (.int (0 : Int32)), .val (.int (0 : Int32))] [(.int (1 : Int32))])) _
    refine XS.goto X11.here hx rfl (pc0 := 223) (pc' := 227) rfl (hb hby at_223) (by decide) (by decide) ?_
    show Steps p.tables e below (T11.setTop (mkF m 227 #[.val (.long q1), .second, .val (.long q2), .second, .val (.long q3), .second, .val (.long q4), .second, .val (.long q5), .second, .val (.int p6), .val (.ref b1), .val (.int (p6 &&& (15 : Int32))), .val (.long (own_b p6 (1 : Int32) q1 q5)), .second, .val (.long (own_b p6 (2 : Int32) q2 q5)), .second, .val (.long (own_b p6 (4 : Int32) q3 q5)), .second, .val (.long (own_b p6 (8 : Int32) q4 q5)), .second, .val (.ref b7), .val (.int (0 : Int32)), .val (.int (0 : Int32))] [(.int (1 : Int32))])) _
    exact retN X11 hx (t := .boolean) Bd.returns (by simp) (hb hby at_227) hr
  · show own_Q1 n0 _ T11.heap _
    rw [e11]
    exact ⟨rfl, N11⟩
set_option maxRecDepth 65536 in
set_option maxHeartbeats 40000000 in
theorem rm3_5 (l : Launch) (Z : State) (a0 : Array Value) (hw : ∀ d ∈ tables_1, d.before a0 Z = true) (r1 : Addr) (h0 : Heap) (n0 : Nat) (O0 : Old Z n0 h0)  :
    MetFree l (⟨"com/example/bide/bide/QueueCounts", "equals", "(Ljava/lang/Object;)Z"⟩ : MethodName) (head1 [Jvm.Cond.code (⟨"com/example/bide/bide/QueueCounts", "equals", "(Ljava/lang/Object;)Z"⟩ : MethodName) prog_3_method_6_code 3 (some .boolean)] ({ frames := 0, cells := 0, slots := 0, locals := 0 } : Room)) (fun a U => a = #[(.ref r1), .null] ∧ Z.Warmed39 U.vm ∧ U.heap = h0) (fun _ _ _ _ _ => True) (fun _ U o U' => ∃ v L, o = .returned v ∧ own_QP (some (.int (0 : Int32))) n0 h0 v U'.heap L ∧ FrameEnd U o U' L ({ frames := 0, cells := 0, slots := 0, locals := 0 } : Room).cells ({ frames := 0, cells := 0, slots := 0, locals := 0 } : Room).slots) := by
  refine MetFree.of_bodySF (plainFor_of_name pn_0) hisR ?_
  intro p e s m args below meth c s₁ Bd hml0 hP hK
  obtain ⟨rfl, hZ, hh⟩ := hP
  have hx := Bd.exec
  have hby := Bd.bytes
  have hml : c.maxLocals = 3 := hml0
  have hown : s.vm.findClass "com/example/bide/bide/QueueCounts" = some m.cls := findClass_of_methodNamed Bd.named
  have hnm := (name_of_methodNamed Bd.named Bd.method).1
  have X0 : Stand p l e ({ frames := 0, cells := 0, slots := 0, locals := 0 } : Room) s m #[(.ref r1), .null] below meth c s₁ [] 0 0 := Stand.of_body Bd
  have e0 : s₁.heap = h0 := by rw [← hh, Bd.state]; rfl
  have N0 := Fr.nil n0
  have pre0 : ∀ t, Steps p.tables e below (s₁.setTop (mkF m 0 #[.val (.ref r1), .val .null, .unset] [])) t → Steps p.tables e below (s₁.setTop (entryFrame m #[(.ref r1), .null] 3)) t := fun t k => castTop (ef_3_RN m r1) k
  obtain ⟨fs, hr, hrun, hended, hW, hsame⟩ := X0.leave (v := (some (.int (0 : Int32)))) (fun h => by rw [Bd.returns] at h; cases h)
  refine ⟨_, _, pre0 _ ?_, hrun, hended, _, _, rfl, ?_, ⟨_, rfl⟩, hW, hsame.mono (by decide) (by decide)⟩
  · show Steps p.tables e below (s₁.setTop (mkF m 0 #[.val (.ref r1), .val .null, .unset] [])) _
    refine XS.aloadN X0.here hx rfl (hb hby d3_0) rfl rfl ?_
    show Steps p.tables e below (s₁.setTop (mkF m 1 #[.val (.ref r1), .val .null, .unset] [.null])) _
    refine X0.instanceofNull hx (g := (mkF m 1 #[.val (.ref r1), .val .null, .unset] [.null])) rfl rfl (hb hby d3_1) _ ?_
    show Steps p.tables e below (s₁.setTop (mkF m 4 #[.val (.ref r1), .val .null, .unset] [(.int (0 : Int32))])) _
    refine XS.ifNo X0.here hx rfl (hb hby d3_4) rfl (by decide) ?_
    show Steps p.tables e below (s₁.setTop (mkF m 7 #[.val (.ref r1), .val .null, .unset] [])) _
    refine XS.iconst X0.here hx rfl (hb hby d3_7) ?_
    show Steps p.tables e below (s₁.setTop (mkF m 8 #[.val (.ref r1), .val .null, .unset] [(.int (0 : Int32))])) _
    exact retN X0 hx (t := .boolean) Bd.returns (by simp) (hb hby d3_8) hr
  · show own_QP (some (.int (0 : Int32))) n0 h0 _ s₁.heap _
    rw [e0]
    exact ⟨rfl, N0, rfl⟩
set_option maxRecDepth 65536 in
set_option maxHeartbeats 40000000 in
theorem law_6 (l : Launch) (Z : State) (a0 : Array Value) (hw : ∀ d ∈ tables_1, d.before a0 Z = true) (ws : List Jvm.Cond) (q1 : Int64) (q2 : Int64) (q3 : Int64) (q4 : Int64) (q5 : Int64) (p6 : Int32) (h0 : Heap) (n0 : Nat) (O0 : Old Z n0 h0) (P1 : (((p6.toUInt32 >>> ((4 : Int32) &&& 31).toUInt32).toInt32) &&& (3 : Int32)) = (1 : Int32)) :
    MetFree l x (head1 (Jvm.Cond.code x code maxLocals ret :: ws) room_1) (fun a U => a = #[(.long q1), (.long q2), (.long q3), (.long q4), (.long q5), (.int p6)] ∧ Z.Warmed39 U.vm ∧ U.heap = h0) (fun _ _ _ _ _ => True) (fun _ U o U' => ∃ v L, o = .returned v ∧ own_Q1 n0 v U'.heap L ∧ FrameEnd U o U' L room_1.cells room_1.slots) := by
  refine MetFree.of_bodySF (plainFor_of_name pn_5) hisR ?_
  intro p e s m args below meth c s₁ Bd hml0 hP hK
  obtain ⟨rfl, hZ, hh⟩ := hP
  have hx := Bd.exec
  have hby := Bd.bytes
  have hml : c.maxLocals = 24 := hml0
  have hown : s.vm.findClass "com/example/bide/bide/QueueCountsEqualsPinLaw" = some m.cls := findClass_of_methodNamed Bd.named
  have hnm := (name_of_methodNamed Bd.named Bd.method).1
  have X0 : Stand p l e room_1 s m #[(.long q1), (.long q2), (.long q3), (.long q4), (.long q5), (.int p6)] below meth c s₁ [] 0 0 := Stand.of_body Bd
  have e0 : s₁.heap = h0 := by rw [← hh, Bd.state]; rfl
  have N0 := Fr.nil n0
  have pre0 : ∀ t, Steps p.tables e below (s₁.setTop (mkF m 0 #[.val (.long q1), .second, .val (.long q2), .second, .val (.long q3), .second, .val (.long q4), .second, .val (.long q5), .second, .val (.int p6), .unset, .unset, .unset, .unset, .unset, .unset, .unset, .unset, .unset, .unset, .unset, .unset, .unset] [])) t → Steps p.tables e below (s₁.setTop (entryFrame m #[(.long q1), (.long q2), (.long q3), (.long q4), (.long q5), (.int p6)] maxLocals)) t := fun t k => castTop (ef_0_JJJJJI m q1 q2 q3 q4 q5 p6) k
  obtain ⟨T1, h1, X1, e1, E1, A1, D1, -, st1⟩ := newO X0 hx hZ hown (hw _ (List.mem_of_getElem? (i := 0) rfl)) (hw _ (List.mem_of_getElem? (i := 1) rfl)) (hw _ (List.mem_of_getElem? (i := 2) rfl)) e0 (g := (mkF m 0 #[.val (.long q1), .second, .val (.long q2), .second, .val (.long q3), .second, .val (.long q4), .second, .val (.long q5), .second, .val (.int p6), .unset, .unset, .unset, .unset, .unset, .unset, .unset, .unset, .unset, .unset, .unset, .unset, .unset] [])) rfl (hb hby at_0) (by decide) (by decide)
  obtain ⟨b1, gq1⟩ : ∃ z, z = h0.size := ⟨_, rfl⟩
  rw [← gq1] at A1 D1 st1
  have g_b1 : n0 ≤ b1 := Nat.le_trans ((O0.1 ▸ O0.2.1) : n0 ≤ h0.size) (Nat.le_of_eq gq1.symm)
  have sz_b1 : h0.size ≤ b1 := Nat.le_trans (Keep.refl h0 []).1 (Nat.le_of_eq gq1.symm)
  have KK1 : Keep h0 h1 [] := (Keep.refl h0 []).ext E1
  have O1 := O0.ext E1
  have F_pending_b1 : Fld Z h1 b1 "com/example/bide/bide/QueueCounts" "pending" "J" (.long (0 : Int64)) := D1 (Or.inr (hw _ (List.mem_of_getElem? (i := 10) rfl))) (ty := .long) (by decide)
  have F_due_b1 : Fld Z h1 b1 "com/example/bide/bide/QueueCounts" "due" "J" (.long (0 : Int64)) := D1 (Or.inr (hw _ (List.mem_of_getElem? (i := 12) rfl))) (ty := .long) (by decide)
  have F_leased_b1 : Fld Z h1 b1 "com/example/bide/bide/QueueCounts" "leased" "J" (.long (0 : Int64)) := D1 (Or.inr (hw _ (List.mem_of_getElem? (i := 14) rfl))) (ty := .long) (by decide)
  have F_dead_b1 : Fld Z h1 b1 "com/example/bide/bide/QueueCounts" "dead" "J" (.long (0 : Int64)) := D1 (Or.inr (hw _ (List.mem_of_getElem? (i := 16) rfl))) (ty := .long) (by decide)
  obtain ⟨_, _, ⟨T2, L2, k2, n2⟩, -, X2, ⟨Lc2, hQ2, l2, y2, z2⟩, st2⟩ := X1.specialBack hx (y := (⟨"com/example/bide/bide/QueueCounts", "<init>", "(JJJJ)V"⟩ : MethodName)) rfl hown (mvT hZ (hw _ (List.mem_of_getElem? (i := 3) rfl))) (mvT hZ (hw _ (List.mem_of_getElem? (i := 4) rfl))) (mvT hZ (hw _ (List.mem_of_getElem? (i := 5) rfl))) (by decide) (backOf (W := 1) (rm1_0 l Z a0 hw b1 q1 q2 q3 q4 h1 n0 O1 A1 F_pending_b1 F_due_b1 F_leased_b1 F_dead_b1 g_b1) hZ (hw _ (List.mem_of_getElem? (i := 5) rfl)) (hw _ (List.mem_of_getElem? (i := 2) rfl)) (by decide) (by decide)) (g := (mkF m 10 #[.val (.long q1), .second, .val (.long q2), .second, .val (.long q3), .second, .val (.long q4), .second, .val (.long q5), .second, .val (.int p6), .unset, .unset, .unset, .unset, .unset, .unset, .unset, .unset, .unset, .unset, .unset, .unset, .unset] [(.long q4), (.long q3), (.long q2), (.long q1), (.ref b1), (.ref b1)])) rfl (by rw [hml]; rfl) (Steps.refl _) (a := b1) (argsL := [(.long q1), (.long q2), (.long q3), (.long q4)]) (rest := [(.ref b1)]) (lenOf pd_2 rfl) rfl (by show 2 * 0 + _ ≤ _; exact Nat.le_of_eq rfl) (hb hby at_10) (fun _ _ => ⟨rfl, e1, (by decide : 1 + 0 ≤ _), (by decide : 4 + 0 ≤ _)⟩)
  dsimp only [Pt.U, Pt.locs, Pt.cells, Pt.slots] at X2 l2 y2 z2 st2 hQ2
  subst l2 y2 z2
  obtain ⟨rfl, N2q, K2, f2_0, f2_1, f2_2, f2_3⟩ := hQ2
  have KK2 : Keep h0 T2.heap [] := KK1.trans K2 (allS (Or.inr sz_b1) all0)
  have O2 := O1.keep K2 (allS g_b1 all0)
  have N2 := Fr.app N0 N2q
  have dm3 : ∀ target, Steps p.tables e below (T2.setTop (mkF m 37 #[.val (.long q1), .second, .val (.long q2), .second, .val (.long q3), .second, .val (.long q4), .second, .val (.long q5), .second, .val (.int p6), .val (.ref b1), .val (.int (p6 &&& (15 : Int32))), .unset, .unset, .unset, .unset, .unset, .unset, .unset, .unset, .unset, .unset, .unset] [(.long (own_b p6 (1 : Int32) q1 q5))])) target → Steps p.tables e below (T2.setTop (mkF m 26 #[.val (.long q1), .second, .val (.long q2), .second, .val (.long q3), .second, .val (.long q4), .second, .val (.long q5), .second, .val (.int p6), .val (.ref b1), .val (.int (p6 &&& (15 : Int32))), .unset, .unset, .unset, .unset, .unset, .unset, .unset, .unset, .unset, .unset, .unset] [(.int ((p6 &&& (15 : Int32)) &&& (1 : Int32)))])) target := by
    intro target kt
    by_cases hdb : ((p6 &&& (15 : Int32)) &&& (1 : Int32)) = (0 : Int32)
    · rw [own_b_pos hdb] at kt
      show Steps p.tables e below (T2.setTop (mkF m 26 #[.val (.long q1), .second, .val (.long q2), .second, .val (.long q3), .second, .val (.long q4), .second, .val (.long q5), .second, .val (.int p6), .val (.ref b1), .val (.int (p6 &&& (15 : Int32))), .unset, .unset, .unset, .unset, .unset, .unset, .unset, .unset, .unset, .unset, .unset] [(.int ((p6 &&& (15 : Int32)) &&& (1 : Int32)))])) _
      refine XS.ifYes X2.here hx rfl (pc0 := 26) (pc' := 36) rfl (hb hby at_26) rfl ((if0 _ _).trans (teq hdb).1) (by decide) (by decide) ?_
      show Steps p.tables e below (T2.setTop (mkF m 36 #[.val (.long q1), .second, .val (.long q2), .second, .val (.long q3), .second, .val (.long q4), .second, .val (.long q5), .second, .val (.int p6), .val (.ref b1), .val (.int (p6 &&& (15 : Int32))), .unset, .unset, .unset, .unset, .unset, .unset, .unset, .unset, .unset, .unset, .unset] [])) _
      refine XS.lloadN X2.here hx rfl (hb hby at_36) rfl ?_
      exact kt
    · rw [own_b_neg hdb] at kt
      show Steps p.tables e below (T2.setTop (mkF m 26 #[.val (.long q1), .second, .val (.long q2), .second, .val (.long q3), .second, .val (.long q4), .second, .val (.long q5), .second, .val (.int p6), .val (.ref b1), .val (.int (p6 &&& (15 : Int32))), .unset, .unset, .unset, .unset, .unset, .unset, .unset, .unset, .unset, .unset, .unset] [(.int ((p6 &&& (15 : Int32)) &&& (1 : Int32)))])) _
      refine XS.ifNo X2.here hx rfl (hb hby at_26) rfl ((if0 _ _).trans (feq hdb).1) ?_
      show Steps p.tables e below (T2.setTop (mkF m 29 #[.val (.long q1), .second, .val (.long q2), .second, .val (.long q3), .second, .val (.long q4), .second, .val (.long q5), .second, .val (.int p6), .val (.ref b1), .val (.int (p6 &&& (15 : Int32))), .unset, .unset, .unset, .unset, .unset, .unset, .unset, .unset, .unset, .unset, .unset] [])) _
      refine XS.lloadN X2.here hx rfl (hb hby at_29) rfl ?_
      show Steps p.tables e below (T2.setTop (mkF m 30 #[.val (.long q1), .second, .val (.long q2), .second, .val (.long q3), .second, .val (.long q4), .second, .val (.long q5), .second, .val (.int p6), .val (.ref b1), .val (.int (p6 &&& (15 : Int32))), .unset, .unset, .unset, .unset, .unset, .unset, .unset, .unset, .unset, .unset, .unset] [(.long q1)])) _
      refine XS.lload X2.here hx rfl (hb hby at_30) rfl ?_
      show Steps p.tables e below (T2.setTop (mkF m 32 #[.val (.long q1), .second, .val (.long q2), .second, .val (.long q3), .second, .val (.long q4), .second, .val (.long q5), .second, .val (.int p6), .val (.ref b1), .val (.int (p6 &&& (15 : Int32))), .unset, .unset, .unset, .unset, .unset, .unset, .unset, .unset, .unset, .unset, .unset] [(.long q5), (.long q1)])) _
      refine XS.ladd X2.here hx rfl (hb hby at_32) rfl ?_
      show Steps p.tables e below (T2.setTop (mkF m 33 #[.val (.long q1), .second, .val (.long q2), .second, .val (.long q3), .second, .val (.long q4), .second, .val (.long q5), .second, .val (.int p6), .val (.ref b1), .val (.int (p6 &&& (15 : Int32))), .unset, .unset, .unset, .unset, .unset, .unset, .unset, .unset, .unset, .unset, .unset] [(.long (q1 + q5))])) _
      refine XS.goto X2.here hx rfl (pc0 := 33) (pc' := 37) rfl (hb hby at_33) (by decide) (by decide) ?_
      exact kt
  have dm4 : ∀ target, Steps p.tables e below (T2.setTop (mkF m 54 #[.val (.long q1), .second, .val (.long q2), .second, .val (.long q3), .second, .val (.long q4), .second, .val (.long q5), .second, .val (.int p6), .val (.ref b1), .val (.int (p6 &&& (15 : Int32))), .val (.long (own_b p6 (1 : Int32) q1 q5)), .second, .unset, .unset, .unset, .unset, .unset, .unset, .unset, .unset, .unset] [(.long (own_b p6 (2 : Int32) q2 q5))])) target → Steps p.tables e below (T2.setTop (mkF m 43 #[.val (.long q1), .second, .val (.long q2), .second, .val (.long q3), .second, .val (.long q4), .second, .val (.long q5), .second, .val (.int p6), .val (.ref b1), .val (.int (p6 &&& (15 : Int32))), .val (.long (own_b p6 (1 : Int32) q1 q5)), .second, .unset, .unset, .unset, .unset, .unset, .unset, .unset, .unset, .unset] [(.int ((p6 &&& (15 : Int32)) &&& (2 : Int32)))])) target := by
    intro target kt
    by_cases hdb : ((p6 &&& (15 : Int32)) &&& (2 : Int32)) = (0 : Int32)
    · rw [own_b_pos hdb] at kt
      show Steps p.tables e below (T2.setTop (mkF m 43 #[.val (.long q1), .second, .val (.long q2), .second, .val (.long q3), .second, .val (.long q4), .second, .val (.long q5), .second, .val (.int p6), .val (.ref b1), .val (.int (p6 &&& (15 : Int32))), .val (.long (own_b p6 (1 : Int32) q1 q5)), .second, .unset, .unset, .unset, .unset, .unset, .unset, .unset, .unset, .unset] [(.int ((p6 &&& (15 : Int32)) &&& (2 : Int32)))])) _
      refine XS.ifYes X2.here hx rfl (pc0 := 43) (pc' := 53) rfl (hb hby at_43) rfl ((if0 _ _).trans (teq hdb).1) (by decide) (by decide) ?_
      show Steps p.tables e below (T2.setTop (mkF m 53 #[.val (.long q1), .second, .val (.long q2), .second, .val (.long q3), .second, .val (.long q4), .second, .val (.long q5), .second, .val (.int p6), .val (.ref b1), .val (.int (p6 &&& (15 : Int32))), .val (.long (own_b p6 (1 : Int32) q1 q5)), .second, .unset, .unset, .unset, .unset, .unset, .unset, .unset, .unset, .unset] [])) _
      refine XS.lloadN X2.here hx rfl (hb hby at_53) rfl ?_
      exact kt
    · rw [own_b_neg hdb] at kt
      show Steps p.tables e below (T2.setTop (mkF m 43 #[.val (.long q1), .second, .val (.long q2), .second, .val (.long q3), .second, .val (.long q4), .second, .val (.long q5), .second, .val (.int p6), .val (.ref b1), .val (.int (p6 &&& (15 : Int32))), .val (.long (own_b p6 (1 : Int32) q1 q5)), .second, .unset, .unset, .unset, .unset, .unset, .unset, .unset, .unset, .unset] [(.int ((p6 &&& (15 : Int32)) &&& (2 : Int32)))])) _
      refine XS.ifNo X2.here hx rfl (hb hby at_43) rfl ((if0 _ _).trans (feq hdb).1) ?_
      show Steps p.tables e below (T2.setTop (mkF m 46 #[.val (.long q1), .second, .val (.long q2), .second, .val (.long q3), .second, .val (.long q4), .second, .val (.long q5), .second, .val (.int p6), .val (.ref b1), .val (.int (p6 &&& (15 : Int32))), .val (.long (own_b p6 (1 : Int32) q1 q5)), .second, .unset, .unset, .unset, .unset, .unset, .unset, .unset, .unset, .unset] [])) _
      refine XS.lloadN X2.here hx rfl (hb hby at_46) rfl ?_
      show Steps p.tables e below (T2.setTop (mkF m 47 #[.val (.long q1), .second, .val (.long q2), .second, .val (.long q3), .second, .val (.long q4), .second, .val (.long q5), .second, .val (.int p6), .val (.ref b1), .val (.int (p6 &&& (15 : Int32))), .val (.long (own_b p6 (1 : Int32) q1 q5)), .second, .unset, .unset, .unset, .unset, .unset, .unset, .unset, .unset, .unset] [(.long q2)])) _
      refine XS.lload X2.here hx rfl (hb hby at_47) rfl ?_
      show Steps p.tables e below (T2.setTop (mkF m 49 #[.val (.long q1), .second, .val (.long q2), .second, .val (.long q3), .second, .val (.long q4), .second, .val (.long q5), .second, .val (.int p6), .val (.ref b1), .val (.int (p6 &&& (15 : Int32))), .val (.long (own_b p6 (1 : Int32) q1 q5)), .second, .unset, .unset, .unset, .unset, .unset, .unset, .unset, .unset, .unset] [(.long q5), (.long q2)])) _
      refine XS.ladd X2.here hx rfl (hb hby at_49) rfl ?_
      show Steps p.tables e below (T2.setTop (mkF m 50 #[.val (.long q1), .second, .val (.long q2), .second, .val (.long q3), .second, .val (.long q4), .second, .val (.long q5), .second, .val (.int p6), .val (.ref b1), .val (.int (p6 &&& (15 : Int32))), .val (.long (own_b p6 (1 : Int32) q1 q5)), .second, .unset, .unset, .unset, .unset, .unset, .unset, .unset, .unset, .unset] [(.long (q2 + q5))])) _
      refine XS.goto X2.here hx rfl (pc0 := 50) (pc' := 54) rfl (hb hby at_50) (by decide) (by decide) ?_
      exact kt
  have dm5 : ∀ target, Steps p.tables e below (T2.setTop (mkF m 73 #[.val (.long q1), .second, .val (.long q2), .second, .val (.long q3), .second, .val (.long q4), .second, .val (.long q5), .second, .val (.int p6), .val (.ref b1), .val (.int (p6 &&& (15 : Int32))), .val (.long (own_b p6 (1 : Int32) q1 q5)), .second, .val (.long (own_b p6 (2 : Int32) q2 q5)), .second, .unset, .unset, .unset, .unset, .unset, .unset, .unset] [(.long (own_b p6 (4 : Int32) q3 q5))])) target → Steps p.tables e below (T2.setTop (mkF m 60 #[.val (.long q1), .second, .val (.long q2), .second, .val (.long q3), .second, .val (.long q4), .second, .val (.long q5), .second, .val (.int p6), .val (.ref b1), .val (.int (p6 &&& (15 : Int32))), .val (.long (own_b p6 (1 : Int32) q1 q5)), .second, .val (.long (own_b p6 (2 : Int32) q2 q5)), .second, .unset, .unset, .unset, .unset, .unset, .unset, .unset] [(.int ((p6 &&& (15 : Int32)) &&& (4 : Int32)))])) target := by
    intro target kt
    by_cases hdb : ((p6 &&& (15 : Int32)) &&& (4 : Int32)) = (0 : Int32)
    · rw [own_b_pos hdb] at kt
      show Steps p.tables e below (T2.setTop (mkF m 60 #[.val (.long q1), .second, .val (.long q2), .second, .val (.long q3), .second, .val (.long q4), .second, .val (.long q5), .second, .val (.int p6), .val (.ref b1), .val (.int (p6 &&& (15 : Int32))), .val (.long (own_b p6 (1 : Int32) q1 q5)), .second, .val (.long (own_b p6 (2 : Int32) q2 q5)), .second, .unset, .unset, .unset, .unset, .unset, .unset, .unset] [(.int ((p6 &&& (15 : Int32)) &&& (4 : Int32)))])) _
      refine XS.ifYes X2.here hx rfl (pc0 := 60) (pc' := 71) rfl (hb hby at_60) rfl ((if0 _ _).trans (teq hdb).1) (by decide) (by decide) ?_
      show Steps p.tables e below (T2.setTop (mkF m 71 #[.val (.long q1), .second, .val (.long q2), .second, .val (.long q3), .second, .val (.long q4), .second, .val (.long q5), .second, .val (.int p6), .val (.ref b1), .val (.int (p6 &&& (15 : Int32))), .val (.long (own_b p6 (1 : Int32) q1 q5)), .second, .val (.long (own_b p6 (2 : Int32) q2 q5)), .second, .unset, .unset, .unset, .unset, .unset, .unset, .unset] [])) _
      refine XS.lload X2.here hx rfl (hb hby at_71) rfl ?_
      exact kt
    · rw [own_b_neg hdb] at kt
      show Steps p.tables e below (T2.setTop (mkF m 60 #[.val (.long q1), .second, .val (.long q2), .second, .val (.long q3), .second, .val (.long q4), .second, .val (.long q5), .second, .val (.int p6), .val (.ref b1), .val (.int (p6 &&& (15 : Int32))), .val (.long (own_b p6 (1 : Int32) q1 q5)), .second, .val (.long (own_b p6 (2 : Int32) q2 q5)), .second, .unset, .unset, .unset, .unset, .unset, .unset, .unset] [(.int ((p6 &&& (15 : Int32)) &&& (4 : Int32)))])) _
      refine XS.ifNo X2.here hx rfl (hb hby at_60) rfl ((if0 _ _).trans (feq hdb).1) ?_
      show Steps p.tables e below (T2.setTop (mkF m 63 #[.val (.long q1), .second, .val (.long q2), .second, .val (.long q3), .second, .val (.long q4), .second, .val (.long q5), .second, .val (.int p6), .val (.ref b1), .val (.int (p6 &&& (15 : Int32))), .val (.long (own_b p6 (1 : Int32) q1 q5)), .second, .val (.long (own_b p6 (2 : Int32) q2 q5)), .second, .unset, .unset, .unset, .unset, .unset, .unset, .unset] [])) _
      refine XS.lload X2.here hx rfl (hb hby at_63) rfl ?_
      show Steps p.tables e below (T2.setTop (mkF m 65 #[.val (.long q1), .second, .val (.long q2), .second, .val (.long q3), .second, .val (.long q4), .second, .val (.long q5), .second, .val (.int p6), .val (.ref b1), .val (.int (p6 &&& (15 : Int32))), .val (.long (own_b p6 (1 : Int32) q1 q5)), .second, .val (.long (own_b p6 (2 : Int32) q2 q5)), .second, .unset, .unset, .unset, .unset, .unset, .unset, .unset] [(.long q3)])) _
      refine XS.lload X2.here hx rfl (hb hby at_65) rfl ?_
      show Steps p.tables e below (T2.setTop (mkF m 67 #[.val (.long q1), .second, .val (.long q2), .second, .val (.long q3), .second, .val (.long q4), .second, .val (.long q5), .second, .val (.int p6), .val (.ref b1), .val (.int (p6 &&& (15 : Int32))), .val (.long (own_b p6 (1 : Int32) q1 q5)), .second, .val (.long (own_b p6 (2 : Int32) q2 q5)), .second, .unset, .unset, .unset, .unset, .unset, .unset, .unset] [(.long q5), (.long q3)])) _
      refine XS.ladd X2.here hx rfl (hb hby at_67) rfl ?_
      show Steps p.tables e below (T2.setTop (mkF m 68 #[.val (.long q1), .second, .val (.long q2), .second, .val (.long q3), .second, .val (.long q4), .second, .val (.long q5), .second, .val (.int p6), .val (.ref b1), .val (.int (p6 &&& (15 : Int32))), .val (.long (own_b p6 (1 : Int32) q1 q5)), .second, .val (.long (own_b p6 (2 : Int32) q2 q5)), .second, .unset, .unset, .unset, .unset, .unset, .unset, .unset] [(.long (q3 + q5))])) _
      refine XS.goto X2.here hx rfl (pc0 := 68) (pc' := 73) rfl (hb hby at_68) (by decide) (by decide) ?_
      exact kt
  have dm6 : ∀ target, Steps p.tables e below (T2.setTop (mkF m 93 #[.val (.long q1), .second, .val (.long q2), .second, .val (.long q3), .second, .val (.long q4), .second, .val (.long q5), .second, .val (.int p6), .val (.ref b1), .val (.int (p6 &&& (15 : Int32))), .val (.long (own_b p6 (1 : Int32) q1 q5)), .second, .val (.long (own_b p6 (2 : Int32) q2 q5)), .second, .val (.long (own_b p6 (4 : Int32) q3 q5)), .second, .unset, .unset, .unset, .unset, .unset] [(.long (own_b p6 (8 : Int32) q4 q5))])) target → Steps p.tables e below (T2.setTop (mkF m 80 #[.val (.long q1), .second, .val (.long q2), .second, .val (.long q3), .second, .val (.long q4), .second, .val (.long q5), .second, .val (.int p6), .val (.ref b1), .val (.int (p6 &&& (15 : Int32))), .val (.long (own_b p6 (1 : Int32) q1 q5)), .second, .val (.long (own_b p6 (2 : Int32) q2 q5)), .second, .val (.long (own_b p6 (4 : Int32) q3 q5)), .second, .unset, .unset, .unset, .unset, .unset] [(.int ((p6 &&& (15 : Int32)) &&& (8 : Int32)))])) target := by
    intro target kt
    by_cases hdb : ((p6 &&& (15 : Int32)) &&& (8 : Int32)) = (0 : Int32)
    · rw [own_b_pos hdb] at kt
      show Steps p.tables e below (T2.setTop (mkF m 80 #[.val (.long q1), .second, .val (.long q2), .second, .val (.long q3), .second, .val (.long q4), .second, .val (.long q5), .second, .val (.int p6), .val (.ref b1), .val (.int (p6 &&& (15 : Int32))), .val (.long (own_b p6 (1 : Int32) q1 q5)), .second, .val (.long (own_b p6 (2 : Int32) q2 q5)), .second, .val (.long (own_b p6 (4 : Int32) q3 q5)), .second, .unset, .unset, .unset, .unset, .unset] [(.int ((p6 &&& (15 : Int32)) &&& (8 : Int32)))])) _
      refine XS.ifYes X2.here hx rfl (pc0 := 80) (pc' := 91) rfl (hb hby at_80) rfl ((if0 _ _).trans (teq hdb).1) (by decide) (by decide) ?_
      show Steps p.tables e below (T2.setTop (mkF m 91 #[.val (.long q1), .second, .val (.long q2), .second, .val (.long q3), .second, .val (.long q4), .second, .val (.long q5), .second, .val (.int p6), .val (.ref b1), .val (.int (p6 &&& (15 : Int32))), .val (.long (own_b p6 (1 : Int32) q1 q5)), .second, .val (.long (own_b p6 (2 : Int32) q2 q5)), .second, .val (.long (own_b p6 (4 : Int32) q3 q5)), .second, .unset, .unset, .unset, .unset, .unset] [])) _
      refine XS.lload X2.here hx rfl (hb hby at_91) rfl ?_
      exact kt
    · rw [own_b_neg hdb] at kt
      show Steps p.tables e below (T2.setTop (mkF m 80 #[.val (.long q1), .second, .val (.long q2), .second, .val (.long q3), .second, .val (.long q4), .second, .val (.long q5), .second, .val (.int p6), .val (.ref b1), .val (.int (p6 &&& (15 : Int32))), .val (.long (own_b p6 (1 : Int32) q1 q5)), .second, .val (.long (own_b p6 (2 : Int32) q2 q5)), .second, .val (.long (own_b p6 (4 : Int32) q3 q5)), .second, .unset, .unset, .unset, .unset, .unset] [(.int ((p6 &&& (15 : Int32)) &&& (8 : Int32)))])) _
      refine XS.ifNo X2.here hx rfl (hb hby at_80) rfl ((if0 _ _).trans (feq hdb).1) ?_
      show Steps p.tables e below (T2.setTop (mkF m 83 #[.val (.long q1), .second, .val (.long q2), .second, .val (.long q3), .second, .val (.long q4), .second, .val (.long q5), .second, .val (.int p6), .val (.ref b1), .val (.int (p6 &&& (15 : Int32))), .val (.long (own_b p6 (1 : Int32) q1 q5)), .second, .val (.long (own_b p6 (2 : Int32) q2 q5)), .second, .val (.long (own_b p6 (4 : Int32) q3 q5)), .second, .unset, .unset, .unset, .unset, .unset] [])) _
      refine XS.lload X2.here hx rfl (hb hby at_83) rfl ?_
      show Steps p.tables e below (T2.setTop (mkF m 85 #[.val (.long q1), .second, .val (.long q2), .second, .val (.long q3), .second, .val (.long q4), .second, .val (.long q5), .second, .val (.int p6), .val (.ref b1), .val (.int (p6 &&& (15 : Int32))), .val (.long (own_b p6 (1 : Int32) q1 q5)), .second, .val (.long (own_b p6 (2 : Int32) q2 q5)), .second, .val (.long (own_b p6 (4 : Int32) q3 q5)), .second, .unset, .unset, .unset, .unset, .unset] [(.long q4)])) _
      refine XS.lload X2.here hx rfl (hb hby at_85) rfl ?_
      show Steps p.tables e below (T2.setTop (mkF m 87 #[.val (.long q1), .second, .val (.long q2), .second, .val (.long q3), .second, .val (.long q4), .second, .val (.long q5), .second, .val (.int p6), .val (.ref b1), .val (.int (p6 &&& (15 : Int32))), .val (.long (own_b p6 (1 : Int32) q1 q5)), .second, .val (.long (own_b p6 (2 : Int32) q2 q5)), .second, .val (.long (own_b p6 (4 : Int32) q3 q5)), .second, .unset, .unset, .unset, .unset, .unset] [(.long q5), (.long q4)])) _
      refine XS.ladd X2.here hx rfl (hb hby at_87) rfl ?_
      show Steps p.tables e below (T2.setTop (mkF m 88 #[.val (.long q1), .second, .val (.long q2), .second, .val (.long q3), .second, .val (.long q4), .second, .val (.long q5), .second, .val (.int p6), .val (.ref b1), .val (.int (p6 &&& (15 : Int32))), .val (.long (own_b p6 (1 : Int32) q1 q5)), .second, .val (.long (own_b p6 (2 : Int32) q2 q5)), .second, .val (.long (own_b p6 (4 : Int32) q3 q5)), .second, .unset, .unset, .unset, .unset, .unset] [(.long (q4 + q5))])) _
      refine XS.goto X2.here hx rfl (pc0 := 88) (pc' := 93) rfl (hb hby at_88) (by decide) (by decide) ?_
      exact kt
  obtain ⟨T7, h7, X7, e7, E7, A7, D7, -, st7⟩ := newO X2 hx hZ hown (hw _ (List.mem_of_getElem? (i := 0) rfl)) (hw _ (List.mem_of_getElem? (i := 1) rfl)) (hw _ (List.mem_of_getElem? (i := 2) rfl)) rfl (g := (mkF m 95 #[.val (.long q1), .second, .val (.long q2), .second, .val (.long q3), .second, .val (.long q4), .second, .val (.long q5), .second, .val (.int p6), .val (.ref b1), .val (.int (p6 &&& (15 : Int32))), .val (.long (own_b p6 (1 : Int32) q1 q5)), .second, .val (.long (own_b p6 (2 : Int32) q2 q5)), .second, .val (.long (own_b p6 (4 : Int32) q3 q5)), .second, .val (.long (own_b p6 (8 : Int32) q4 q5)), .second, .unset, .unset, .unset] [])) rfl (hb hby at_95) (by decide) (by decide)
  obtain ⟨b7, gq7⟩ : ∃ z, z = T2.heap.size := ⟨_, rfl⟩
  rw [← gq7] at A7 D7 st7
  have g_b7 : n0 ≤ b7 := Nat.le_trans ((O2.1 ▸ O2.2.1) : n0 ≤ T2.heap.size) (Nat.le_of_eq gq7.symm)
  have sz_b7 : h0.size ≤ b7 := Nat.le_trans KK2.1 (Nat.le_of_eq gq7.symm)
  have KK7 : Keep h0 h7 [] := KK2.ext E7
  have O7 := O2.ext E7
  have F_pending_b7 : Fld Z h7 b7 "com/example/bide/bide/QueueCounts" "pending" "J" (.long (0 : Int64)) := D7 (Or.inr (hw _ (List.mem_of_getElem? (i := 10) rfl))) (ty := .long) (by decide)
  have F_due_b7 : Fld Z h7 b7 "com/example/bide/bide/QueueCounts" "due" "J" (.long (0 : Int64)) := D7 (Or.inr (hw _ (List.mem_of_getElem? (i := 12) rfl))) (ty := .long) (by decide)
  have F_leased_b7 : Fld Z h7 b7 "com/example/bide/bide/QueueCounts" "leased" "J" (.long (0 : Int64)) := D7 (Or.inr (hw _ (List.mem_of_getElem? (i := 14) rfl))) (ty := .long) (by decide)
  have F_dead_b7 : Fld Z h7 b7 "com/example/bide/bide/QueueCounts" "dead" "J" (.long (0 : Int64)) := D7 (Or.inr (hw _ (List.mem_of_getElem? (i := 16) rfl))) (ty := .long) (by decide)
  obtain ⟨_, _, ⟨T8, L8, k8, n8⟩, -, X8, ⟨Lc8, hQ8, l8, y8, z8⟩, st8⟩ := X7.specialBack hx (y := (⟨"com/example/bide/bide/QueueCounts", "<init>", "(JJJJ)V"⟩ : MethodName)) rfl hown (mvT hZ (hw _ (List.mem_of_getElem? (i := 3) rfl))) (mvT hZ (hw _ (List.mem_of_getElem? (i := 4) rfl))) (mvT hZ (hw _ (List.mem_of_getElem? (i := 5) rfl))) (by decide) (backOf (W := 1) (rm1_0 l Z a0 hw b7 (own_b p6 (1 : Int32) q1 q5) (own_b p6 (2 : Int32) q2 q5) (own_b p6 (4 : Int32) q3 q5) (own_b p6 (8 : Int32) q4 q5) h7 n0 O7 A7 F_pending_b7 F_due_b7 F_leased_b7 F_dead_b7 g_b7) hZ (hw _ (List.mem_of_getElem? (i := 5) rfl)) (hw _ (List.mem_of_getElem? (i := 2) rfl)) (by decide) (by decide)) (g := (mkF m 107 #[.val (.long q1), .second, .val (.long q2), .second, .val (.long q3), .second, .val (.long q4), .second, .val (.long q5), .second, .val (.int p6), .val (.ref b1), .val (.int (p6 &&& (15 : Int32))), .val (.long (own_b p6 (1 : Int32) q1 q5)), .second, .val (.long (own_b p6 (2 : Int32) q2 q5)), .second, .val (.long (own_b p6 (4 : Int32) q3 q5)), .second, .val (.long (own_b p6 (8 : Int32) q4 q5)), .second, .unset, .unset, .unset] [(.long (own_b p6 (8 : Int32) q4 q5)), (.long (own_b p6 (4 : Int32) q3 q5)), (.long (own_b p6 (2 : Int32) q2 q5)), (.long (own_b p6 (1 : Int32) q1 q5)), (.ref b7), (.ref b7)])) rfl (by rw [hml]; rfl) (Steps.refl _) (a := b7) (argsL := [(.long (own_b p6 (1 : Int32) q1 q5)), (.long (own_b p6 (2 : Int32) q2 q5)), (.long (own_b p6 (4 : Int32) q3 q5)), (.long (own_b p6 (8 : Int32) q4 q5))]) (rest := [(.ref b7)]) (lenOf pd_2 rfl) rfl (by show 2 * 0 + _ ≤ _; exact Nat.le_of_eq rfl) (hb hby at_107) (fun _ _ => ⟨rfl, e7, (by decide : 2 + 0 ≤ _), (by decide : 8 + 0 ≤ _)⟩)
  dsimp only [Pt.U, Pt.locs, Pt.cells, Pt.slots] at X8 l8 y8 z8 st8 hQ8
  subst l8 y8 z8
  obtain ⟨rfl, N8q, K8, f8_0, f8_1, f8_2, f8_3⟩ := hQ8
  have KK8 : Keep h0 T8.heap [] := KK7.trans K8 (allS (Or.inr sz_b7) all0)
  have O8 := O7.keep K8 (allS g_b7 all0)
  have N8 := Fr.app N2 N8q
  obtain ⟨cq9, kq9, q9a, q9b, q9c⟩ := isOf hZ rfl (((A1.keep K2).ext E7).keep K8)
  obtain ⟨_, _, ⟨T9, L9, k9, n9⟩, -, X9, ⟨Lc9, hQ9, l9, y9, z9⟩, st9⟩ := X8.virtualBack hx (y := (⟨"com/example/bide/bide/QueueCounts", "equals", "(Ljava/lang/Object;)Z"⟩ : MethodName)) (z := (⟨"com/example/bide/bide/QueueCounts", "equals", "(Ljava/lang/Object;)Z"⟩ : MethodName)) hown (mvT hZ (hw _ (List.mem_of_getElem? (i := 17) rfl))) (mvT hZ (hw _ (List.mem_of_getElem? (i := 18) rfl))) (notFace_of_selects (args := #[]) (mvT hZ (hw _ (List.mem_of_getElem? (i := 20) rfl)))) (mvT hZ (hw _ (List.mem_of_getElem? (i := 20) rfl))) (mvT hZ (hw _ (List.mem_of_getElem? (i := 19) rfl))) (by decide) (backOf (W := 0) (rm3_5 l Z a0 hw b1 T8.heap n0 O8 ) hZ (hw _ (List.mem_of_getElem? (i := 21) rfl)) (hw _ (List.mem_of_getElem? (i := 2) rfl)) (by decide) (by decide)) q9a q9c (g := (mkF m 129 #[.val (.long q1), .second, .val (.long q2), .second, .val (.long q3), .second, .val (.long q4), .second, .val (.long q5), .second, .val (.int p6), .val (.ref b1), .val (.int (p6 &&& (15 : Int32))), .val (.long (own_b p6 (1 : Int32) q1 q5)), .second, .val (.long (own_b p6 (2 : Int32) q2 q5)), .second, .val (.long (own_b p6 (4 : Int32) q3 q5)), .second, .val (.long (own_b p6 (8 : Int32) q4 q5)), .second, .val (.ref b7), .val (.int (1 : Int32)), .unset] [.null, (.ref b1)])) rfl (by rw [hml]; rfl) (Steps.refl _) (argsL := [.null]) (rest := []) (lenOf pd_4 rfl) rfl (by show 2 * 0 + _ ≤ _; exact Nat.le_of_eq rfl) (hb hby at_129) (fun _ _ => ⟨rfl, rfl, (by decide : 2 + 0 ≤ _), (by decide : 8 + 0 ≤ _)⟩)
  dsimp only [Pt.U, Pt.locs, Pt.cells, Pt.slots] at X9 l9 y9 z9 st9 hQ9
  subst l9 y9 z9
  obtain ⟨rfl, N9q, e9⟩ := hQ9
  have N9 := Fr.app N8 N9q
  obtain ⟨fs, hr, hrun, hended, hW, hsame⟩ := X9.leave (v := some (.int (1 : Int32))) (fun h => by rw [Bd.returns] at h; cases h)
  refine ⟨_, _, pre0 _ ?_, hrun, hended, _, _, rfl, ?_, ⟨_, rfl⟩, hW, hsame.mono (by decide) (by decide)⟩
  · show Steps p.tables e below (s₁.setTop (mkF m 0 #[.val (.long q1), .second, .val (.long q2), .second, .val (.long q3), .second, .val (.long q4), .second, .val (.long q5), .second, .val (.int p6), .unset, .unset, .unset, .unset, .unset, .unset, .unset, .unset, .unset, .unset, .unset, .unset, .unset] [])) _
    refine st1 _ ?_
    show Steps p.tables e below (T1.setTop (mkF m 3 #[.val (.long q1), .second, .val (.long q2), .second, .val (.long q3), .second, .val (.long q4), .second, .val (.long q5), .second, .val (.int p6), .unset, .unset, .unset, .unset, .unset, .unset, .unset, .unset, .unset, .unset, .unset, .unset, .unset] [(.ref b1)])) _
    refine XS.dup X1.here hx rfl (hb hby at_3) rfl rfl ?_
    show Steps p.tables e below (T1.setTop (mkF m 4 #[.val (.long q1), .second, .val (.long q2), .second, .val (.long q3), .second, .val (.long q4), .second, .val (.long q5), .second, .val (.int p6), .unset, .unset, .unset, .unset, .unset, .unset, .unset, .unset, .unset, .unset, .unset, .unset, .unset] [(.ref b1), (.ref b1)])) _
    refine XS.lloadN X1.here hx rfl (hb hby at_4) rfl ?_
    show Steps p.tables e below (T1.setTop (mkF m 5 #[.val (.long q1), .second, .val (.long q2), .second, .val (.long q3), .second, .val (.long q4), .second, .val (.long q5), .second, .val (.int p6), .unset, .unset, .unset, .unset, .unset, .unset, .unset, .unset, .unset, .unset, .unset, .unset, .unset] [(.long q1), (.ref b1), (.ref b1)])) _
    refine XS.lloadN X1.here hx rfl (hb hby at_5) rfl ?_
    show Steps p.tables e below (T1.setTop (mkF m 6 #[.val (.long q1), .second, .val (.long q2), .second, .val (.long q3), .second, .val (.long q4), .second, .val (.long q5), .second, .val (.int p6), .unset, .unset, .unset, .unset, .unset, .unset, .unset, .unset, .unset, .unset, .unset, .unset, .unset] [(.long q2), (.long q1), (.ref b1), (.ref b1)])) _
    refine XS.lload X1.here hx rfl (hb hby at_6) rfl ?_
    show Steps p.tables e below (T1.setTop (mkF m 8 #[.val (.long q1), .second, .val (.long q2), .second, .val (.long q3), .second, .val (.long q4), .second, .val (.long q5), .second, .val (.int p6), .unset, .unset, .unset, .unset, .unset, .unset, .unset, .unset, .unset, .unset, .unset, .unset, .unset] [(.long q3), (.long q2), (.long q1), (.ref b1), (.ref b1)])) _
    refine XS.lload X1.here hx rfl (hb hby at_8) rfl ?_
    show Steps p.tables e below (T1.setTop (mkF m 10 #[.val (.long q1), .second, .val (.long q2), .second, .val (.long q3), .second, .val (.long q4), .second, .val (.long q5), .second, .val (.int p6), .unset, .unset, .unset, .unset, .unset, .unset, .unset, .unset, .unset, .unset, .unset, .unset, .unset] [(.long q4), (.long q3), (.long q2), (.long q1), (.ref b1), (.ref b1)])) _
    refine st2.trans ?_
    show Steps p.tables e below (T2.setTop (mkF m 13 #[.val (.long q1), .second, .val (.long q2), .second, .val (.long q3), .second, .val (.long q4), .second, .val (.long q5), .second, .val (.int p6), .unset, .unset, .unset, .unset, .unset, .unset, .unset, .unset, .unset, .unset, .unset, .unset, .unset] [(.ref b1)])) _
    refine XS.astore X2.here hx rfl (hb hby at_13) rfl rfl (l' := #[.val (.long q1), .second, .val (.long q2), .second, .val (.long q3), .second, .val (.long q4), .second, .val (.long q5), .second, .val (.int p6), .val (.ref b1), .unset, .unset, .unset, .unset, .unset, .unset, .unset, .unset, .unset, .unset, .unset, .unset]) rfl ?_
    show Steps p.tables e below (T2.setTop (mkF m 15 #[.val (.long q1), .second, .val (.long q2), .second, .val (.long q3), .second, .val (.long q4), .second, .val (.long q5), .second, .val (.int p6), .val (.ref b1), .unset, .unset, .unset, .unset, .unset, .unset, .unset, .unset, .unset, .unset, .unset, .unset] [])) _
    refine XS.iload X2.here hx rfl (hb hby at_15) rfl ?_
    show Steps p.tables e below (T2.setTop (mkF m 17 #[.val (.long q1), .second, .val (.long q2), .second, .val (.long q3), .second, .val (.long q4), .second, .val (.long q5), .second, .val (.int p6), .val (.ref b1), .unset, .unset, .unset, .unset, .unset, .unset, .unset, .unset, .unset, .unset, .unset, .unset] [(.int p6)])) _
    refine XS.bipush X2.here hx rfl (hb hby at_17) ?_
    show Steps p.tables e below (T2.setTop (mkF m 19 #[.val (.long q1), .second, .val (.long q2), .second, .val (.long q3), .second, .val (.long q4), .second, .val (.long q5), .second, .val (.int p6), .val (.ref b1), .unset, .unset, .unset, .unset, .unset, .unset, .unset, .unset, .unset, .unset, .unset, .unset] [(.int (15 : Int32)), (.int p6)])) _
    refine XS.iand X2.here hx rfl (hb hby at_19) rfl ?_
    show Steps p.tables e below (T2.setTop (mkF m 20 #[.val (.long q1), .second, .val (.long q2), .second, .val (.long q3), .second, .val (.long q4), .second, .val (.long q5), .second, .val (.int p6), .val (.ref b1), .unset, .unset, .unset, .unset, .unset, .unset, .unset, .unset, .unset, .unset, .unset, .unset] [(.int (p6 &&& (15 : Int32)))])) _
    refine XS.istore X2.here hx rfl (hb hby at_20) rfl (l' := #[.val (.long q1), .second, .val (.long q2), .second, .val (.long q3), .second, .val (.long q4), .second, .val (.long q5), .second, .val (.int p6), .val (.ref b1), .val (.int (p6 &&& (15 : Int32))), .unset, .unset, .unset, .unset, .unset, .unset, .unset, .unset, .unset, .unset, .unset]) rfl ?_
    show Steps p.tables e below (T2.setTop (mkF m 22 #[.val (.long q1), .second, .val (.long q2), .second, .val (.long q3), .second, .val (.long q4), .second, .val (.long q5), .second, .val (.int p6), .val (.ref b1), .val (.int (p6 &&& (15 : Int32))), .unset, .unset, .unset, .unset, .unset, .unset, .unset, .unset, .unset, .unset, .unset] [])) _
    refine XS.iload X2.here hx rfl (hb hby at_22) rfl ?_
    show Steps p.tables e below (T2.setTop (mkF m 24 #[.val (.long q1), .second, .val (.long q2), .second, .val (.long q3), .second, .val (.long q4), .second, .val (.long q5), .second, .val (.int p6), .val (.ref b1), .val (.int (p6 &&& (15 : Int32))), .unset, .unset, .unset, .unset, .unset, .unset, .unset, .unset, .unset, .unset, .unset] [(.int (p6 &&& (15 : Int32)))])) _
    refine XS.iconst X2.here hx rfl (hb hby at_24) ?_
    show Steps p.tables e below (T2.setTop (mkF m 25 #[.val (.long q1), .second, .val (.long q2), .second, .val (.long q3), .second, .val (.long q4), .second, .val (.long q5), .second, .val (.int p6), .val (.ref b1), .val (.int (p6 &&& (15 : Int32))), .unset, .unset, .unset, .unset, .unset, .unset, .unset, .unset, .unset, .unset, .unset] [(.int (1 : Int32)), (.int (p6 &&& (15 : Int32)))])) _
    refine XS.iand X2.here hx rfl (hb hby at_25) rfl ?_
    show Steps p.tables e below (T2.setTop (mkF m 26 #[.val (.long q1), .second, .val (.long q2), .second, .val (.long q3), .second, .val (.long q4), .second, .val (.long q5), .second, .val (.int p6), .val (.ref b1), .val (.int (p6 &&& (15 : Int32))), .unset, .unset, .unset, .unset, .unset, .unset, .unset, .unset, .unset, .unset, .unset] [(.int ((p6 &&& (15 : Int32)) &&& (1 : Int32)))])) _
    refine dm3 _ ?_
    show Steps p.tables e below (T2.setTop (mkF m 37 #[.val (.long q1), .second, .val (.long q2), .second, .val (.long q3), .second, .val (.long q4), .second, .val (.long q5), .second, .val (.int p6), .val (.ref b1), .val (.int (p6 &&& (15 : Int32))), .unset, .unset, .unset, .unset, .unset, .unset, .unset, .unset, .unset, .unset, .unset] [(.long (own_b p6 (1 : Int32) q1 q5))])) _
    refine XS.lstore X2.here hx rfl (hb hby at_37) rfl (l' := #[.val (.long q1), .second, .val (.long q2), .second, .val (.long q3), .second, .val (.long q4), .second, .val (.long q5), .second, .val (.int p6), .val (.ref b1), .val (.int (p6 &&& (15 : Int32))), .val (.long (own_b p6 (1 : Int32) q1 q5)), .second, .unset, .unset, .unset, .unset, .unset, .unset, .unset, .unset, .unset]) rfl ?_
    show Steps p.tables e below (T2.setTop (mkF m 39 #[.val (.long q1), .second, .val (.long q2), .second, .val (.long q3), .second, .val (.long q4), .second, .val (.long q5), .second, .val (.int p6), .val (.ref b1), .val (.int (p6 &&& (15 : Int32))), .val (.long (own_b p6 (1 : Int32) q1 q5)), .second, .unset, .unset, .unset, .unset, .unset, .unset, .unset, .unset, .unset] [])) _
    refine XS.iload X2.here hx rfl (hb hby at_39) rfl ?_
    show Steps p.tables e below (T2.setTop (mkF m 41 #[.val (.long q1), .second, .val (.long q2), .second, .val (.long q3), .second, .val (.long q4), .second, .val (.long q5), .second, .val (.int p6), .val (.ref b1), .val (.int (p6 &&& (15 : Int32))), .val (.long (own_b p6 (1 : Int32) q1 q5)), .second, .unset, .unset, .unset, .unset, .unset, .unset, .unset, .unset, .unset] [(.int (p6 &&& (15 : Int32)))])) _
    refine XS.iconst X2.here hx rfl (hb hby at_41) ?_
    show Steps p.tables e below (T2.setTop (mkF m 42 #[.val (.long q1), .second, .val (.long q2), .second, .val (.long q3), .second, .val (.long q4), .second, .val (.long q5), .second, .val (.int p6), .val (.ref b1), .val (.int (p6 &&& (15 : Int32))), .val (.long (own_b p6 (1 : Int32) q1 q5)), .second, .unset, .unset, .unset, .unset, .unset, .unset, .unset, .unset, .unset] [(.int (2 : Int32)), (.int (p6 &&& (15 : Int32)))])) _
    refine XS.iand X2.here hx rfl (hb hby at_42) rfl ?_
    show Steps p.tables e below (T2.setTop (mkF m 43 #[.val (.long q1), .second, .val (.long q2), .second, .val (.long q3), .second, .val (.long q4), .second, .val (.long q5), .second, .val (.int p6), .val (.ref b1), .val (.int (p6 &&& (15 : Int32))), .val (.long (own_b p6 (1 : Int32) q1 q5)), .second, .unset, .unset, .unset, .unset, .unset, .unset, .unset, .unset, .unset] [(.int ((p6 &&& (15 : Int32)) &&& (2 : Int32)))])) _
    refine dm4 _ ?_
    show Steps p.tables e below (T2.setTop (mkF m 54 #[.val (.long q1), .second, .val (.long q2), .second, .val (.long q3), .second, .val (.long q4), .second, .val (.long q5), .second, .val (.int p6), .val (.ref b1), .val (.int (p6 &&& (15 : Int32))), .val (.long (own_b p6 (1 : Int32) q1 q5)), .second, .unset, .unset, .unset, .unset, .unset, .unset, .unset, .unset, .unset] [(.long (own_b p6 (2 : Int32) q2 q5))])) _
    refine XS.lstore X2.here hx rfl (hb hby at_54) rfl (l' := #[.val (.long q1), .second, .val (.long q2), .second, .val (.long q3), .second, .val (.long q4), .second, .val (.long q5), .second, .val (.int p6), .val (.ref b1), .val (.int (p6 &&& (15 : Int32))), .val (.long (own_b p6 (1 : Int32) q1 q5)), .second, .val (.long (own_b p6 (2 : Int32) q2 q5)), .second, .unset, .unset, .unset, .unset, .unset, .unset, .unset]) rfl ?_
    show Steps p.tables e below (T2.setTop (mkF m 56 #[.val (.long q1), .second, .val (.long q2), .second, .val (.long q3), .second, .val (.long q4), .second, .val (.long q5), .second, .val (.int p6), .val (.ref b1), .val (.int (p6 &&& (15 : Int32))), .val (.long (own_b p6 (1 : Int32) q1 q5)), .second, .val (.long (own_b p6 (2 : Int32) q2 q5)), .second, .unset, .unset, .unset, .unset, .unset, .unset, .unset] [])) _
    refine XS.iload X2.here hx rfl (hb hby at_56) rfl ?_
    show Steps p.tables e below (T2.setTop (mkF m 58 #[.val (.long q1), .second, .val (.long q2), .second, .val (.long q3), .second, .val (.long q4), .second, .val (.long q5), .second, .val (.int p6), .val (.ref b1), .val (.int (p6 &&& (15 : Int32))), .val (.long (own_b p6 (1 : Int32) q1 q5)), .second, .val (.long (own_b p6 (2 : Int32) q2 q5)), .second, .unset, .unset, .unset, .unset, .unset, .unset, .unset] [(.int (p6 &&& (15 : Int32)))])) _
    refine XS.iconst X2.here hx rfl (hb hby at_58) ?_
    show Steps p.tables e below (T2.setTop (mkF m 59 #[.val (.long q1), .second, .val (.long q2), .second, .val (.long q3), .second, .val (.long q4), .second, .val (.long q5), .second, .val (.int p6), .val (.ref b1), .val (.int (p6 &&& (15 : Int32))), .val (.long (own_b p6 (1 : Int32) q1 q5)), .second, .val (.long (own_b p6 (2 : Int32) q2 q5)), .second, .unset, .unset, .unset, .unset, .unset, .unset, .unset] [(.int (4 : Int32)), (.int (p6 &&& (15 : Int32)))])) _
    refine XS.iand X2.here hx rfl (hb hby at_59) rfl ?_
    show Steps p.tables e below (T2.setTop (mkF m 60 #[.val (.long q1), .second, .val (.long q2), .second, .val (.long q3), .second, .val (.long q4), .second, .val (.long q5), .second, .val (.int p6), .val (.ref b1), .val (.int (p6 &&& (15 : Int32))), .val (.long (own_b p6 (1 : Int32) q1 q5)), .second, .val (.long (own_b p6 (2 : Int32) q2 q5)), .second, .unset, .unset, .unset, .unset, .unset, .unset, .unset] [(.int ((p6 &&& (15 : Int32)) &&& (4 : Int32)))])) _
    refine dm5 _ ?_
    show Steps p.tables e below (T2.setTop (mkF m 73 #[.val (.long q1), .second, .val (.long q2), .second, .val (.long q3), .second, .val (.long q4), .second, .val (.long q5), .second, .val (.int p6), .val (.ref b1), .val (.int (p6 &&& (15 : Int32))), .val (.long (own_b p6 (1 : Int32) q1 q5)), .second, .val (.long (own_b p6 (2 : Int32) q2 q5)), .second, .unset, .unset, .unset, .unset, .unset, .unset, .unset] [(.long (own_b p6 (4 : Int32) q3 q5))])) _
    refine XS.lstore X2.here hx rfl (hb hby at_73) rfl (l' := #[.val (.long q1), .second, .val (.long q2), .second, .val (.long q3), .second, .val (.long q4), .second, .val (.long q5), .second, .val (.int p6), .val (.ref b1), .val (.int (p6 &&& (15 : Int32))), .val (.long (own_b p6 (1 : Int32) q1 q5)), .second, .val (.long (own_b p6 (2 : Int32) q2 q5)), .second, .val (.long (own_b p6 (4 : Int32) q3 q5)), .second, .unset, .unset, .unset, .unset, .unset]) rfl ?_
    show Steps p.tables e below (T2.setTop (mkF m 75 #[.val (.long q1), .second, .val (.long q2), .second, .val (.long q3), .second, .val (.long q4), .second, .val (.long q5), .second, .val (.int p6), .val (.ref b1), .val (.int (p6 &&& (15 : Int32))), .val (.long (own_b p6 (1 : Int32) q1 q5)), .second, .val (.long (own_b p6 (2 : Int32) q2 q5)), .second, .val (.long (own_b p6 (4 : Int32) q3 q5)), .second, .unset, .unset, .unset, .unset, .unset] [])) _
    refine XS.iload X2.here hx rfl (hb hby at_75) rfl ?_
    show Steps p.tables e below (T2.setTop (mkF m 77 #[.val (.long q1), .second, .val (.long q2), .second, .val (.long q3), .second, .val (.long q4), .second, .val (.long q5), .second, .val (.int p6), .val (.ref b1), .val (.int (p6 &&& (15 : Int32))), .val (.long (own_b p6 (1 : Int32) q1 q5)), .second, .val (.long (own_b p6 (2 : Int32) q2 q5)), .second, .val (.long (own_b p6 (4 : Int32) q3 q5)), .second, .unset, .unset, .unset, .unset, .unset] [(.int (p6 &&& (15 : Int32)))])) _
    refine XS.bipush X2.here hx rfl (hb hby at_77) ?_
    show Steps p.tables e below (T2.setTop (mkF m 79 #[.val (.long q1), .second, .val (.long q2), .second, .val (.long q3), .second, .val (.long q4), .second, .val (.long q5), .second, .val (.int p6), .val (.ref b1), .val (.int (p6 &&& (15 : Int32))), .val (.long (own_b p6 (1 : Int32) q1 q5)), .second, .val (.long (own_b p6 (2 : Int32) q2 q5)), .second, .val (.long (own_b p6 (4 : Int32) q3 q5)), .second, .unset, .unset, .unset, .unset, .unset] [(.int (8 : Int32)), (.int (p6 &&& (15 : Int32)))])) _
    refine XS.iand X2.here hx rfl (hb hby at_79) rfl ?_
    show Steps p.tables e below (T2.setTop (mkF m 80 #[.val (.long q1), .second, .val (.long q2), .second, .val (.long q3), .second, .val (.long q4), .second, .val (.long q5), .second, .val (.int p6), .val (.ref b1), .val (.int (p6 &&& (15 : Int32))), .val (.long (own_b p6 (1 : Int32) q1 q5)), .second, .val (.long (own_b p6 (2 : Int32) q2 q5)), .second, .val (.long (own_b p6 (4 : Int32) q3 q5)), .second, .unset, .unset, .unset, .unset, .unset] [(.int ((p6 &&& (15 : Int32)) &&& (8 : Int32)))])) _
    refine dm6 _ ?_
    show Steps p.tables e below (T2.setTop (mkF m 93 #[.val (.long q1), .second, .val (.long q2), .second, .val (.long q3), .second, .val (.long q4), .second, .val (.long q5), .second, .val (.int p6), .val (.ref b1), .val (.int (p6 &&& (15 : Int32))), .val (.long (own_b p6 (1 : Int32) q1 q5)), .second, .val (.long (own_b p6 (2 : Int32) q2 q5)), .second, .val (.long (own_b p6 (4 : Int32) q3 q5)), .second, .unset, .unset, .unset, .unset, .unset] [(.long (own_b p6 (8 : Int32) q4 q5))])) _
    refine XS.lstore X2.here hx rfl (hb hby at_93) rfl (l' := #[.val (.long q1), .second, .val (.long q2), .second, .val (.long q3), .second, .val (.long q4), .second, .val (.long q5), .second, .val (.int p6), .val (.ref b1), .val (.int (p6 &&& (15 : Int32))), .val (.long (own_b p6 (1 : Int32) q1 q5)), .second, .val (.long (own_b p6 (2 : Int32) q2 q5)), .second, .val (.long (own_b p6 (4 : Int32) q3 q5)), .second, .val (.long (own_b p6 (8 : Int32) q4 q5)), .second, .unset, .unset, .unset]) rfl ?_
    show Steps p.tables e below (T2.setTop (mkF m 95 #[.val (.long q1), .second, .val (.long q2), .second, .val (.long q3), .second, .val (.long q4), .second, .val (.long q5), .second, .val (.int p6), .val (.ref b1), .val (.int (p6 &&& (15 : Int32))), .val (.long (own_b p6 (1 : Int32) q1 q5)), .second, .val (.long (own_b p6 (2 : Int32) q2 q5)), .second, .val (.long (own_b p6 (4 : Int32) q3 q5)), .second, .val (.long (own_b p6 (8 : Int32) q4 q5)), .second, .unset, .unset, .unset] [])) _
    refine st7 _ ?_
    show Steps p.tables e below (T7.setTop (mkF m 98 #[.val (.long q1), .second, .val (.long q2), .second, .val (.long q3), .second, .val (.long q4), .second, .val (.long q5), .second, .val (.int p6), .val (.ref b1), .val (.int (p6 &&& (15 : Int32))), .val (.long (own_b p6 (1 : Int32) q1 q5)), .second, .val (.long (own_b p6 (2 : Int32) q2 q5)), .second, .val (.long (own_b p6 (4 : Int32) q3 q5)), .second, .val (.long (own_b p6 (8 : Int32) q4 q5)), .second, .unset, .unset, .unset] [(.ref b7)])) _
    refine XS.dup X7.here hx rfl (hb hby at_98) rfl rfl ?_
    show Steps p.tables e below (T7.setTop (mkF m 99 #[.val (.long q1), .second, .val (.long q2), .second, .val (.long q3), .second, .val (.long q4), .second, .val (.long q5), .second, .val (.int p6), .val (.ref b1), .val (.int (p6 &&& (15 : Int32))), .val (.long (own_b p6 (1 : Int32) q1 q5)), .second, .val (.long (own_b p6 (2 : Int32) q2 q5)), .second, .val (.long (own_b p6 (4 : Int32) q3 q5)), .second, .val (.long (own_b p6 (8 : Int32) q4 q5)), .second, .unset, .unset, .unset] [(.ref b7), (.ref b7)])) _
    refine XS.lload X7.here hx rfl (hb hby at_99) rfl ?_
    show Steps p.tables e below (T7.setTop (mkF m 101 #[.val (.long q1), .second, .val (.long q2), .second, .val (.long q3), .second, .val (.long q4), .second, .val (.long q5), .second, .val (.int p6), .val (.ref b1), .val (.int (p6 &&& (15 : Int32))), .val (.long (own_b p6 (1 : Int32) q1 q5)), .second, .val (.long (own_b p6 (2 : Int32) q2 q5)), .second, .val (.long (own_b p6 (4 : Int32) q3 q5)), .second, .val (.long (own_b p6 (8 : Int32) q4 q5)), .second, .unset, .unset, .unset] [(.long (own_b p6 (1 : Int32) q1 q5)), (.ref b7), (.ref b7)])) _
    refine XS.lload X7.here hx rfl (hb hby at_101) rfl ?_
    show Steps p.tables e below (T7.setTop (mkF m 103 #[.val (.long q1), .second, .val (.long q2), .second, .val (.long q3), .second, .val (.long q4), .second, .val (.long q5), .second, .val (.int p6), .val (.ref b1), .val (.int (p6 &&& (15 : Int32))), .val (.long (own_b p6 (1 : Int32) q1 q5)), .second, .val (.long (own_b p6 (2 : Int32) q2 q5)), .second, .val (.long (own_b p6 (4 : Int32) q3 q5)), .second, .val (.long (own_b p6 (8 : Int32) q4 q5)), .second, .unset, .unset, .unset] [(.long (own_b p6 (2 : Int32) q2 q5)), (.long (own_b p6 (1 : Int32) q1 q5)), (.ref b7), (.ref b7)])) _
    refine XS.lload X7.here hx rfl (hb hby at_103) rfl ?_
    show Steps p.tables e below (T7.setTop (mkF m 105 #[.val (.long q1), .second, .val (.long q2), .second, .val (.long q3), .second, .val (.long q4), .second, .val (.long q5), .second, .val (.int p6), .val (.ref b1), .val (.int (p6 &&& (15 : Int32))), .val (.long (own_b p6 (1 : Int32) q1 q5)), .second, .val (.long (own_b p6 (2 : Int32) q2 q5)), .second, .val (.long (own_b p6 (4 : Int32) q3 q5)), .second, .val (.long (own_b p6 (8 : Int32) q4 q5)), .second, .unset, .unset, .unset] [(.long (own_b p6 (4 : Int32) q3 q5)), (.long (own_b p6 (2 : Int32) q2 q5)), (.long (own_b p6 (1 : Int32) q1 q5)), (.ref b7), (.ref b7)])) _
    refine XS.lload X7.here hx rfl (hb hby at_105) rfl ?_
    show Steps p.tables e below (T7.setTop (mkF m 107 #[.val (.long q1), .second, .val (.long q2), .second, .val (.long q3), .second, .val (.long q4), .second, .val (.long q5), .second, .val (.int p6), .val (.ref b1), .val (.int (p6 &&& (15 : Int32))), .val (.long (own_b p6 (1 : Int32) q1 q5)), .second, .val (.long (own_b p6 (2 : Int32) q2 q5)), .second, .val (.long (own_b p6 (4 : Int32) q3 q5)), .second, .val (.long (own_b p6 (8 : Int32) q4 q5)), .second, .unset, .unset, .unset] [(.long (own_b p6 (8 : Int32) q4 q5)), (.long (own_b p6 (4 : Int32) q3 q5)), (.long (own_b p6 (2 : Int32) q2 q5)), (.long (own_b p6 (1 : Int32) q1 q5)), (.ref b7), (.ref b7)])) _
    refine st8.trans ?_
    show Steps p.tables e below (T8.setTop (mkF m 110 #[.val (.long q1), .second, .val (.long q2), .second, .val (.long q3), .second, .val (.long q4), .second, .val (.long q5), .second, .val (.int p6), .val (.ref b1), .val (.int (p6 &&& (15 : Int32))), .val (.long (own_b p6 (1 : Int32) q1 q5)), .second, .val (.long (own_b p6 (2 : Int32) q2 q5)), .second, .val (.long (own_b p6 (4 : Int32) q3 q5)), .second, .val (.long (own_b p6 (8 : Int32) q4 q5)), .second, .unset, .unset, .unset] [(.ref b7)])) _
    refine XS.astore X8.here hx rfl (hb hby at_110) rfl rfl (l' := #[.val (.long q1), .second, .val (.long q2), .second, .val (.long q3), .second, .val (.long q4), .second, .val (.long q5), .second, .val (.int p6), .val (.ref b1), .val (.int (p6 &&& (15 : Int32))), .val (.long (own_b p6 (1 : Int32) q1 q5)), .second, .val (.long (own_b p6 (2 : Int32) q2 q5)), .second, .val (.long (own_b p6 (4 : Int32) q3 q5)), .second, .val (.long (own_b p6 (8 : Int32) q4 q5)), .second, .val (.ref b7), .unset, .unset]) rfl ?_
    show Steps p.tables e below (T8.setTop (mkF m 112 #[.val (.long q1), .second, .val (.long q2), .second, .val (.long q3), .second, .val (.long q4), .second, .val (.long q5), .second, .val (.int p6), .val (.ref b1), .val (.int (p6 &&& (15 : Int32))), .val (.long (own_b p6 (1 : Int32) q1 q5)), .second, .val (.long (own_b p6 (2 : Int32) q2 q5)), .second, .val (.long (own_b p6 (4 : Int32) q3 q5)), .second, .val (.long (own_b p6 (8 : Int32) q4 q5)), .second, .val (.ref b7), .unset, .unset] [])) _
    refine XS.iload X8.here hx rfl (hb hby at_112) rfl ?_
    show Steps p.tables e below (T8.setTop (mkF m 114 #[.val (.long q1), .second, .val (.long q2), .second, .val (.long q3), .second, .val (.long q4), .second, .val (.long q5), .second, .val (.int p6), .val (.ref b1), .val (.int (p6 &&& (15 : Int32))), .val (.long (own_b p6 (1 : Int32) q1 q5)), .second, .val (.long (own_b p6 (2 : Int32) q2 q5)), .second, .val (.long (own_b p6 (4 : Int32) q3 q5)), .second, .val (.long (own_b p6 (8 : Int32) q4 q5)), .second, .val (.ref b7), .unset, .unset] [(.int p6)])) _
    refine XS.iconst X8.here hx rfl (hb hby at_114) ?_
    show Steps p.tables e below (T8.setTop (mkF m 115 #[.val (.long q1), .second, .val (.long q2), .second, .val (.long q3), .second, .val (.long q4), .second, .val (.long q5), .second, .val (.int p6), .val (.ref b1), .val (.int (p6 &&& (15 : Int32))), .val (.long (own_b p6 (1 : Int32) q1 q5)), .second, .val (.long (own_b p6 (2 : Int32) q2 q5)), .second, .val (.long (own_b p6 (4 : Int32) q3 q5)), .second, .val (.long (own_b p6 (8 : Int32) q4 q5)), .second, .val (.ref b7), .unset, .unset] [(.int (4 : Int32)), (.int p6)])) _
    refine XS.iushr X8.here hx rfl (hb hby at_115) rfl ?_
    show Steps p.tables e below (T8.setTop (mkF m 116 #[.val (.long q1), .second, .val (.long q2), .second, .val (.long q3), .second, .val (.long q4), .second, .val (.long q5), .second, .val (.int p6), .val (.ref b1), .val (.int (p6 &&& (15 : Int32))), .val (.long (own_b p6 (1 : Int32) q1 q5)), .second, .val (.long (own_b p6 (2 : Int32) q2 q5)), .second, .val (.long (own_b p6 (4 : Int32) q3 q5)), .second, .val (.long (own_b p6 (8 : Int32) q4 q5)), .second, .val (.ref b7), .unset, .unset] [(.int ((p6.toUInt32 >>> ((4 : Int32) &&& 31).toUInt32).toInt32))])) _
    refine XS.iconst X8.here hx rfl (hb hby at_116) ?_
    show Steps p.tables e below (T8.setTop (mkF m 117 #[.val (.long q1), .second, .val (.long q2), .second, .val (.long q3), .second, .val (.long q4), .second, .val (.long q5), .second, .val (.int p6), .val (.ref b1), .val (.int (p6 &&& (15 : Int32))), .val (.long (own_b p6 (1 : Int32) q1 q5)), .second, .val (.long (own_b p6 (2 : Int32) q2 q5)), .second, .val (.long (own_b p6 (4 : Int32) q3 q5)), .second, .val (.long (own_b p6 (8 : Int32) q4 q5)), .second, .val (.ref b7), .unset, .unset] [(.int (3 : Int32)), (.int ((p6.toUInt32 >>> ((4 : Int32) &&& 31).toUInt32).toInt32))])) _
    refine XS.iand X8.here hx rfl (hb hby at_117) rfl ?_
    show Steps p.tables e below (T8.setTop (mkF m 118 #[.val (.long q1), .second, .val (.long q2), .second, .val (.long q3), .second, .val (.long q4), .second, .val (.long q5), .second, .val (.int p6), .val (.ref b1), .val (.int (p6 &&& (15 : Int32))), .val (.long (own_b p6 (1 : Int32) q1 q5)), .second, .val (.long (own_b p6 (2 : Int32) q2 q5)), .second, .val (.long (own_b p6 (4 : Int32) q3 q5)), .second, .val (.long (own_b p6 (8 : Int32) q4 q5)), .second, .val (.ref b7), .unset, .unset] [(.int (((p6.toUInt32 >>> ((4 : Int32) &&& 31).toUInt32).toInt32) &&& (3 : Int32)))])) _
    rw [P1]
    show Steps p.tables e below (T8.setTop (mkF m 118 #[.val (.long q1), .second, .val (.long q2), .second, .val (.long q3), .second, .val (.long q4), .second, .val (.long q5), .second, .val (.int p6), .val (.ref b1), .val (.int (p6 &&& (15 : Int32))), .val (.long (own_b p6 (1 : Int32) q1 q5)), .second, .val (.long (own_b p6 (2 : Int32) q2 q5)), .second, .val (.long (own_b p6 (4 : Int32) q3 q5)), .second, .val (.long (own_b p6 (8 : Int32) q4 q5)), .second, .val (.ref b7), .unset, .unset] [(.int (1 : Int32))])) _
    refine XS.istore X8.here hx rfl (hb hby at_118) rfl (l' := #[.val (.long q1), .second, .val (.long q2), .second, .val (.long q3), .second, .val (.long q4), .second, .val (.long q5), .second, .val (.int p6), .val (.ref b1), .val (.int (p6 &&& (15 : Int32))), .val (.long (own_b p6 (1 : Int32) q1 q5)), .second, .val (.long (own_b p6 (2 : Int32) q2 q5)), .second, .val (.long (own_b p6 (4 : Int32) q3 q5)), .second, .val (.long (own_b p6 (8 : Int32) q4 q5)), .second, .val (.ref b7), .val (.int (1 : Int32)), .unset]) rfl ?_
    show Steps p.tables e below (T8.setTop (mkF m 120 #[.val (.long q1), .second, .val (.long q2), .second, .val (.long q3), .second, .val (.long q4), .second, .val (.long q5), .second, .val (.int p6), .val (.ref b1), .val (.int (p6 &&& (15 : Int32))), .val (.long (own_b p6 (1 : Int32) q1 q5)), .second, .val (.long (own_b p6 (2 : Int32) q2 q5)), .second, .val (.long (own_b p6 (4 : Int32) q3 q5)), .second, .val (.long (own_b p6 (8 : Int32) q4 q5)), .second, .val (.ref b7), .val (.int (1 : Int32)), .unset] [])) _
    refine XS.iload X8.here hx rfl (hb hby at_120) rfl ?_
    show Steps p.tables e below (T8.setTop (mkF m 122 #[.val (.long q1), .second, .val (.long q2), .second, .val (.long q3), .second, .val (.long q4), .second, .val (.long q5), .second, .val (.int p6), .val (.ref b1), .val (.int (p6 &&& (15 : Int32))), .val (.long (own_b p6 (1 : Int32) q1 q5)), .second, .val (.long (own_b p6 (2 : Int32) q2 q5)), .second, .val (.long (own_b p6 (4 : Int32) q3 q5)), .second, .val (.long (own_b p6 (8 : Int32) q4 q5)), .second, .val (.ref b7), .val (.int (1 : Int32)), .unset] [(.int (1 : Int32))])) _
    refine XS.iconst X8.here hx rfl (hb hby at_122) ?_
    show Steps p.tables e below (T8.setTop (mkF m 123 #[.val (.long q1), .second, .val (.long q2), .second, .val (.long q3), .second, .val (.long q4), .second, .val (.long q5), .second, .val (.int p6), .val (.ref b1), .val (.int (p6 &&& (15 : Int32))), .val (.long (own_b p6 (1 : Int32) q1 q5)), .second, .val (.long (own_b p6 (2 : Int32) q2 q5)), .second, .val (.long (own_b p6 (4 : Int32) q3 q5)), .second, .val (.long (own_b p6 (8 : Int32) q4 q5)), .second, .val (.ref b7), .val (.int (1 : Int32)), .unset] [(.int (1 : Int32)), (.int (1 : Int32))])) _
    refine XS.icmpNo X8.here hx rfl (hb hby at_123) rfl (by decide) ?_
    show Steps p.tables e below (T8.setTop (mkF m 126 #[.val (.long q1), .second, .val (.long q2), .second, .val (.long q3), .second, .val (.long q4), .second, .val (.long q5), .second, .val (.int p6), .val (.ref b1), .val (.int (p6 &&& (15 : Int32))), .val (.long (own_b p6 (1 : Int32) q1 q5)), .second, .val (.long (own_b p6 (2 : Int32) q2 q5)), .second, .val (.long (own_b p6 (4 : Int32) q3 q5)), .second, .val (.long (own_b p6 (8 : Int32) q4 q5)), .second, .val (.ref b7), .val (.int (1 : Int32)), .unset] [])) _
    refine XS.aload X8.here hx rfl (hb hby at_126) rfl rfl ?_
    show Steps p.tables e below (T8.setTop (mkF m 128 #[.val (.long q1), .second, .val (.long q2), .second, .val (.long q3), .second, .val (.long q4), .second, .val (.long q5), .second, .val (.int p6), .val (.ref b1), .val (.int (p6 &&& (15 : Int32))), .val (.long (own_b p6 (1 : Int32) q1 q5)), .second, .val (.long (own_b p6 (2 : Int32) q2 q5)), .second, .val (.long (own_b p6 (4 : Int32) q3 q5)), .second, .val (.long (own_b p6 (8 : Int32) q4 q5)), .second, .val (.ref b7), .val (.int (1 : Int32)), .unset] [(.ref b1)])) _
    refine XS.aconstNull X8.here hx rfl (hb hby at_128) ?_
    show Steps p.tables e below (T8.setTop (mkF m 129 #[.val (.long q1), .second, .val (.long q2), .second, .val (.long q3), .second, .val (.long q4), .second, .val (.long q5), .second, .val (.int p6), .val (.ref b1), .val (.int (p6 &&& (15 : Int32))), .val (.long (own_b p6 (1 : Int32) q1 q5)), .second, .val (.long (own_b p6 (2 : Int32) q2 q5)), .second, .val (.long (own_b p6 (4 : Int32) q3 q5)), .second, .val (.long (own_b p6 (8 : Int32) q4 q5)), .second, .val (.ref b7), .val (.int (1 : Int32)), .unset] [.null, (.ref b1)])) _
    refine st9.trans ?_
    show Steps p.tables e below (T9.setTop (mkF m 132 #[.val (.long q1), .second, .val (.long q2), .second, .val (.long q3), .second, .val (.long q4), .second, .val (.long q5), .second, .val (.int p6), .val (.ref b1), .val (.int (p6 &&& (15 : Int32))), .val (.long (own_b p6 (1 : Int32) q1 q5)), .second, .val (.long (own_b p6 (2 : Int32) q2 q5)), .second, .val (.long (own_b p6 (4 : Int32) q3 q5)), .second, .val (.long (own_b p6 (8 : Int32) q4 q5)), .second, .val (.ref b7), .val (.int (1 : Int32)), .unset] [(.int (0 : Int32))])) _
    refine XS.ifNo X9.here hx rfl (hb hby at_132) rfl (by decide) ?_
    show Steps p.tables e below (T9.setTop (mkF m 135 #[.val (.long q1), .second, .val (.long q2), .second, .val (.long q3), .second, .val (.long q4), .second, .val (.long q5), .second, .val (.int p6), .val (.ref b1), .val (.int (p6 &&& (15 : Int32))), .val (.long (own_b p6 (1 : Int32) q1 q5)), .second, .val (.long (own_b p6 (2 : Int32) q2 q5)), .second, .val (.long (own_b p6 (4 : Int32) q3 q5)), .second, .val (.long (own_b p6 (8 : Int32) q4 q5)), .second, .val (.ref b7), .val (.int (1 : Int32)), .unset] [])) _
    refine XS.iconst X9.here hx rfl (hb hby at_135) ?_
    show Steps p.tables e below (T9.setTop (mkF m 136 #[.val (.long q1), .second, .val (.long q2), .second, .val (.long q3), .second, .val (.long q4), .second, .val (.long q5), .second, .val (.int p6), .val (.ref b1), .val (.int (p6 &&& (15 : Int32))), .val (.long (own_b p6 (1 : Int32) q1 q5)), .second, .val (.long (own_b p6 (2 : Int32) q2 q5)), .second, .val (.long (own_b p6 (4 : Int32) q3 q5)), .second, .val (.long (own_b p6 (8 : Int32) q4 q5)), .second, .val (.ref b7), .val (.int (1 : Int32)), .unset] [(.int (1 : Int32))])) _
    refine XS.goto X9.here hx rfl (pc0 := 136) (pc' := 140) rfl (hb hby at_136) (by decide) (by decide) ?_
    show Steps p.tables e below (T9.setTop (mkF m 140 #[.val (.long q1), .second, .val (.long q2), .second, .val (.long q3), .second, .val (.long q4), .second, .val (.long q5), .second, .val (.int p6), .val (.ref b1), .val (.int (p6 &&& (15 : Int32))), .val (.long (own_b p6 (1 : Int32) q1 q5)), .second, .val (.long (own_b p6 (2 : Int32) q2 q5)), .second, .val (.long (own_b p6 (4 : Int32) q3 q5)), .second, .val (.long (own_b p6 (8 : Int32) q4 q5)), .second, .val (.ref b7), .val (.int (1 : Int32)), .unset] [(.int (1 : Int32))])) _
    exact retN X9 hx (t := .boolean) Bd.returns (by simp) (hb hby at_140) hr
  · show own_Q1 n0 _ T9.heap _
    rw [e9]
    exact ⟨rfl, N9⟩
def own_QV (Z : State) (C f d : String) (w : Value) (n0 : Nat) (h0 : Heap) (v : Option Value) (h : Heap) (L : List Loc) : Prop := ∃ b : Addr, v = some (.ref b) ∧ Fr n0 L ∧ Keep h0 h [] ∧ Exa Z h b C ∧ Fld Z h b C f d w
theorem own_sub {args : Array Value} {first s : State} {o : Option Outcome} {idx : List Nat} {a b : Term} {x y : Int32} (ha : a.eval args first o idx s = some (.int x)) (hb : b.eval args first o idx s = some (.int y)) : (Term.sub a b).eval args first o idx s = some (.int (x - y)) := by simp [Term.eval, ha, hb]
theorem own_len {args : Array Value} {s : State} {t : Term} {w : Addr} {cl : Cell} {k : Int32} (ev : t.eval args s none [] s = some (.ref w)) (hat : s.arrayAt? w = some cl) (h : (Cond.eq (Term.length t) (Term.int k)).value args s none s [] = some true) : (cl.slots.size : Int) = k.toInt := by
  obtain ⟨x, y, ex, ey, -, -⟩ := cmp_v (Or.inl h)
  simp only [Term.eval, ev, hat, Option.bind_eq_bind, Option.bind_some] at ex
  by_cases hs : cl.slots.size < 2 ^ 31
  · rw [if_pos hs] at ex
    cases ex
    have e1 : (Term.length t).eval args s none [] s = some (.int cl.slots.size.toInt32) := by simp [Term.eval, ev, hat, hs]
    have q : cl.slots.size.toInt32 = k := gotT (P := cl.slots.size.toInt32 = k) (Cond.eq_ints e1 rfl) h
    rw [← q, len_toInt hs]
  · rw [if_neg hs] at ex; cases ex

def own_CaJ (Z : State) (w : Addr) : Prop := ∃ cl : Cell, Arr Z Z.heap w cl (.object "java/lang/Long") ∧ ∀ j : Int32, ¬ j < 0 → j < 256 → ¬ (j < 0 ∨ cl.slots.size ≤ j.toNatClampNeg) ∧ ∃ b : Addr, cl.slots[j.toNatClampNeg]? = some (.ref b) ∧ Exa Z Z.heap b "java/lang/Long" ∧ Fld Z Z.heap b "java/lang/Long" "value" "J" (.long (j - 128).toInt64)
theorem own_caJ {s : State} {args : Array Value} {w : Addr} (ev : (Term.static "java/lang/Long$LongCache" "cache" "[Ljava/lang/Long;").eval args s none [] s = some (.ref w))
    (h2 : (Cond.arrayOf (Term.static "java/lang/Long$LongCache" "cache" "[Ljava/lang/Long;") (.object "java/lang/Long")).value args s none s [] = some true)
    (h4 : (Cond.eq (Term.length (Term.static "java/lang/Long$LongCache" "cache" "[Ljava/lang/Long;")) (Term.int (256 : Int32))).value args s none s [] = some true)
    (h5 : (Cond.all (Term.static "java/lang/Long$LongCache" "cache" "[Ljava/lang/Long;") (Cond.and (Cond.exactly (Term.elem (Term.static "java/lang/Long$LongCache" "cache" "[Ljava/lang/Long;") (Term.index (0 : Nat))) "java/lang/Long") (Cond.eq (Term.field (Term.elem (Term.static "java/lang/Long$LongCache" "cache" "[Ljava/lang/Long;") (Term.index (0 : Nat))) "java/lang/Long" "value" "J") (Term.op1 Unary.i2l (Term.sub (Term.index (0 : Nat)) (Term.int (128 : Int32))))))).value args s none s [] = some true) : own_CaJ s w := by
  obtain ⟨cl, A⟩ := Arr.start ev h2
  have hat : s.arrayAt? w = some cl := A.fin (Vm.Alike.refl _)
  have hsz := own_len ev hat h4
  have z256 : (256 : Int32).toInt = 256 := rfl
  have z0 : (0 : Int32).toInt = 0 := rfl
  refine ⟨cl, A, fun j h0 h1 => ?_⟩
  have hj := nat_of h0
  have hlt : j.toNatClampNeg < cl.slots.size := by rw [Int32.lt_iff_toInt_lt] at h1; omega
  have hin : ¬ (j < 0 ∨ cl.slots.size ≤ j.toNatClampNeg) := fun q => q.elim h0 (fun u => absurd hlt (Nat.not_lt.mpr u))
  have hk := Cond.all_elim ev hat h5 j.toNatClampNeg hlt
  obtain ⟨k1, k2⟩ := and_e hk
  have ej : (Term.index (0 : Nat)).eval args s none [j.toNatClampNeg] s = some (.int j) := by
    show (some (Value.int (j.toNatClampNeg).toInt32) : Option Value) = _
    rw [(back32 h0).1]
  obtain ⟨b, eb⟩ := exa_v k1
  have e1 := (elem_in eb ev ej A.1).2
  refine ⟨hin, b, e1, ?_, ?_⟩
  · obtain ⟨a', c', cell, k, q1, q2, q3, q4, q5, rfl, q7⟩ := Cond.exactly_spec (beq_iff_eq.mpr k1 : (Cond.exactly _ _).holds args s none s [j.toNatClampNeg] = true)
    cases eb.symm.trans q1
    exact ⟨cell, k, q3, q2, q4, q5, q7⟩
  · obtain ⟨x, y, ex, ey, kx, ky⟩ := cmp_v (Or.inl k2)
    rw [fld_at eb] at ex
    have ey' : (Term.op1 Unary.i2l (Term.sub (Term.index (0 : Nat)) (Term.int (128 : Int32)))).eval args s none [j.toNatClampNeg] s = some (.long (j - 128).toInt64) := ((op1_f (own_sub ej rfl)).trans rfl)
    cases ey'.symm.trans ey
    obtain ⟨z, rfl⟩ := ky
    have q := gotT (eq_L ((fld_at eb).trans ex) ey') k2
    subst q
    exact Fld.start ex

set_option maxRecDepth 65536 in
set_option maxHeartbeats 40000000 in
theorem rm6_0 (l : Launch) (Z : State) (a0 : Array Value) (hw : ∀ d ∈ tables_1, d.before a0 Z = true) (r1 : Addr) (h0 : Heap) (n0 : Nat) (O0 : Old Z n0 h0)  :
    MetFree l (⟨"java/lang/Number", "<init>", "()V"⟩ : MethodName) (head1 [Jvm.Cond.code (⟨"java/lang/Number", "<init>", "()V"⟩ : MethodName) jdk_18_method_1_code 1 none] ({ frames := 1, cells := 0, slots := 0, locals := 12 } : Room)) (fun a U => a = #[(.ref r1)] ∧ Z.Warmed39 U.vm ∧ U.heap = h0) (fun _ _ _ _ _ => True) (fun _ U o U' => ∃ v L, o = .returned v ∧ own_QP none n0 h0 v U'.heap L ∧ FrameEnd U o U' L ({ frames := 1, cells := 0, slots := 0, locals := 12 } : Room).cells ({ frames := 1, cells := 0, slots := 0, locals := 12 } : Room).slots) := by
  refine MetFree.of_bodySF (plainFor_of_name pn_8) hisR ?_
  intro p e s m args below meth c s₁ Bd hml0 hP hK
  obtain ⟨rfl, hZ, hh⟩ := hP
  have hx := Bd.exec
  have hby := Bd.bytes
  have hml : c.maxLocals = 1 := hml0
  have hown : s.vm.findClass "java/lang/Number" = some m.cls := findClass_of_methodNamed Bd.named
  have hnm := (name_of_methodNamed Bd.named Bd.method).1
  have X0 : Stand p l e ({ frames := 1, cells := 0, slots := 0, locals := 12 } : Room) s m #[(.ref r1)] below meth c s₁ [] 0 0 := Stand.of_body Bd
  have e0 : s₁.heap = h0 := by rw [← hh, Bd.state]; rfl
  have N0 := Fr.nil n0
  have pre0 : ∀ t, Steps p.tables e below (s₁.setTop (mkF m 0 #[.val (.ref r1)] [])) t → Steps p.tables e below (s₁.setTop (entryFrame m #[(.ref r1)] 1)) t := fun t k => castTop (ef_6_R m r1) k
  obtain ⟨T1, X1, e1, st1⟩ := initO X0 hx hZ hown (hw _ (List.mem_of_getElem? (i := 42) rfl)) (hw _ (List.mem_of_getElem? (i := 7) rfl)) (hw _ (List.mem_of_getElem? (i := 8) rfl)) e0 (g := (mkF m 1 #[.val (.ref r1)] [(.ref r1)])) rfl (by rw [hml]; rfl) rfl (hb hby d6_1) (by decide) (W := 0) (by show 2 * 0 + _ ≤ _; exact Nat.le_of_eq rfl) (by decide)
  obtain ⟨fs, hr, hrun, hended, hW, hsame⟩ := X1.leave (v := none) (fun _ => rfl)
  refine ⟨_, _, pre0 _ ?_, hrun, hended, _, _, rfl, ?_, ⟨_, rfl⟩, hW, hsame.mono (by decide) (by decide)⟩
  · show Steps p.tables e below (s₁.setTop (mkF m 0 #[.val (.ref r1)] [])) _
    refine XS.aloadN X0.here hx rfl (hb hby d6_0) rfl rfl ?_
    show Steps p.tables e below (s₁.setTop (mkF m 1 #[.val (.ref r1)] [(.ref r1)])) _
    refine st1 _ ?_
    show Steps p.tables e below (T1.setTop (mkF m 4 #[.val (.ref r1)] [])) _
    exact X1.returnOut hx Bd.returns (hb hby d6_4) hr
  · show own_QP none n0 h0 _ T1.heap _
    rw [e1]
    exact ⟨rfl, N0, rfl⟩
def Q_rm5_0 (Z : State) (r1 : Addr) (q2 : Int64) (n0 : Nat) (h0 : Heap) (v : Option Value) (h : Heap) (L : List Loc) : Prop := v = none ∧ Fr n0 L ∧ Keep h0 h [r1] ∧ Fld Z h r1 "java/lang/Long" "value" "J" (.long q2)
set_option maxRecDepth 65536 in
set_option maxHeartbeats 40000000 in
theorem rm5_0 (l : Launch) (Z : State) (a0 : Array Value) (hw : ∀ d ∈ tables_1, d.before a0 Z = true) (r1 : Addr) (q2 : Int64) (h0 : Heap) (n0 : Nat) (O0 : Old Z n0 h0) (P1 : Exa Z h0 r1 "java/lang/Long") (P2 : Fld Z h0 r1 "java/lang/Long" "value" "J" (.long (0 : Int64))) (P3 : n0 ≤ r1) :
    MetFree l (⟨"java/lang/Long", "<init>", "(J)V"⟩ : MethodName) (head1 [Jvm.Cond.code (⟨"java/lang/Long", "<init>", "(J)V"⟩ : MethodName) jdk_35_method_26_code 3 none] ({ frames := 2, cells := 0, slots := 0, locals := 24 } : Room)) (fun a U => a = #[(.ref r1), (.long q2)] ∧ Z.Warmed39 U.vm ∧ U.heap = h0) (fun _ _ _ _ _ => True) (fun _ U o U' => ∃ v L, o = .returned v ∧ Q_rm5_0 Z r1 q2 n0 h0 v U'.heap L ∧ FrameEnd U o U' L ({ frames := 2, cells := 0, slots := 0, locals := 24 } : Room).cells ({ frames := 2, cells := 0, slots := 0, locals := 24 } : Room).slots) := by
  refine MetFree.of_bodySF (plainFor_of_name pn_11) hisR ?_
  intro p e s m args below meth c s₁ Bd hml0 hP hK
  obtain ⟨rfl, hZ, hh⟩ := hP
  have hx := Bd.exec
  have hby := Bd.bytes
  have hml : c.maxLocals = 3 := hml0
  have hown : s.vm.findClass "java/lang/Long" = some m.cls := findClass_of_methodNamed Bd.named
  have hnm := (name_of_methodNamed Bd.named Bd.method).1
  have X0 : Stand p l e ({ frames := 2, cells := 0, slots := 0, locals := 24 } : Room) s m #[(.ref r1), (.long q2)] below meth c s₁ [] 0 0 := Stand.of_body Bd
  have e0 : s₁.heap = h0 := by rw [← hh, Bd.state]; rfl
  have N0 := Fr.nil n0
  have pre0 : ∀ t, Steps p.tables e below (s₁.setTop (mkF m 0 #[.val (.ref r1), .val (.long q2), .second] [])) t → Steps p.tables e below (s₁.setTop (entryFrame m #[(.ref r1), (.long q2)] 3)) t := fun t k => castTop (ef_5_RJ m r1 q2) k
  obtain ⟨_, _, ⟨T1, L1, k1, n1⟩, -, X1, ⟨Lc1, hQ1, l1, y1, z1⟩, st1⟩ := X0.specialBack hx (y := (⟨"java/lang/Number", "<init>", "()V"⟩ : MethodName)) rfl hown (mvT hZ (hw _ (List.mem_of_getElem? (i := 36) rfl))) (mvT hZ (hw _ (List.mem_of_getElem? (i := 37) rfl))) (mvT hZ (hw _ (List.mem_of_getElem? (i := 41) rfl))) (by decide) (backOf (W := 0) (rm6_0 l Z a0 hw r1 h0 n0 O0 ) hZ (hw _ (List.mem_of_getElem? (i := 41) rfl)) (hw _ (List.mem_of_getElem? (i := 40) rfl)) (by decide) (by decide)) (g := (mkF m 1 #[.val (.ref r1), .val (.long q2), .second] [(.ref r1)])) rfl (by rw [hml]; rfl) (Steps.refl _) (a := r1) (argsL := []) (rest := []) (lenOf pd_10 rfl) rfl (by show 2 * 0 + _ ≤ _; exact Nat.le_of_eq rfl) (hb hby d5_1) (fun _ _ => ⟨rfl, e0, (by decide : 0 + 0 ≤ _), (by decide : 0 + 0 ≤ _)⟩)
  dsimp only [Pt.U, Pt.locs, Pt.cells, Pt.slots] at X1 l1 y1 z1 st1 hQ1
  subst l1 y1 z1
  obtain ⟨rfl, N1q, e1⟩ := hQ1
  have N1 := Fr.app N0 N1q
  obtain ⟨T2, h2, X2, e2, W2, st2⟩ := putF X1 hx hZ hown (host := "") (Or.inl (hw _ (List.mem_of_getElem? (i := 43) rfl))) Via.refl e1 P2 P1 (Or.inr ⟨(hw _ (List.mem_of_getElem? (i := 44) rfl)), rfl, hnm⟩) (hw _ (List.mem_of_getElem? (i := 31) rfl)) (ty := .long) (by decide) rfl rfl (g := (mkF m 6 #[.val (.ref r1), .val (.long q2), .second] [(.long q2), (.ref r1)])) rfl rfl (hb hby d5_6)
  have Fw2 := P2.same W2
  have KK2 : Keep h0 h2 [r1] := (Keep.refl h0 [r1]).wr W2 (Or.inl (List.mem_of_getElem? (i := 0) rfl))
  have O2 := O0.wr W2 P3
  have N2 := Fr.snoc X2 N1 P3
  obtain ⟨fs, hr, hrun, hended, hW, hsame⟩ := X2.leave (v := none) (fun _ => rfl)
  refine ⟨_, _, pre0 _ ?_, hrun, hended, _, _, rfl, ?_, ⟨_, rfl⟩, hW, hsame.mono (by decide) (by decide)⟩
  · show Steps p.tables e below (s₁.setTop (mkF m 0 #[.val (.ref r1), .val (.long q2), .second] [])) _
    refine XS.aloadN X0.here hx rfl (hb hby d5_0) rfl rfl ?_
    show Steps p.tables e below (s₁.setTop (mkF m 1 #[.val (.ref r1), .val (.long q2), .second] [(.ref r1)])) _
    refine st1.trans ?_
    show Steps p.tables e below (T1.setTop (mkF m 4 #[.val (.ref r1), .val (.long q2), .second] [])) _
    refine XS.aloadN X1.here hx rfl (hb hby d5_4) rfl rfl ?_
    show Steps p.tables e below (T1.setTop (mkF m 5 #[.val (.ref r1), .val (.long q2), .second] [(.ref r1)])) _
    refine XS.lloadN X1.here hx rfl (hb hby d5_5) rfl ?_
    show Steps p.tables e below (T1.setTop (mkF m 6 #[.val (.ref r1), .val (.long q2), .second] [(.long q2), (.ref r1)])) _
    refine st2 _ ?_
    show Steps p.tables e below (T2.setTop (mkF m 9 #[.val (.ref r1), .val (.long q2), .second] [])) _
    exact X2.returnOut hx Bd.returns (hb hby d5_9) hr
  · show Q_rm5_0 Z r1 q2 n0 h0 _ T2.heap _
    rw [e2]
    exact ⟨rfl, N2, KK2, Fw2⟩
set_option maxRecDepth 65536 in
set_option maxHeartbeats 40000000 in
theorem rm4_0 (l : Launch) (Z : State) (a0 : Array Value) (hw : ∀ d ∈ tables_1, d.before a0 Z = true) (q1 : Int64) (h0 : Heap) (n0 : Nat) (O0 : Old Z n0 h0) (P1 : (lcmpW q1 (-128 : Int64)) < (0 : Int32)) :
    MetFree l (⟨"java/lang/Long", "valueOf", "(J)Ljava/lang/Long;"⟩ : MethodName) (head1 [Jvm.Cond.code (⟨"java/lang/Long", "valueOf", "(J)Ljava/lang/Long;"⟩ : MethodName) jdk_35_method_24_code 3 (some (.object "java/lang/Long"))] ({ frames := 3, cells := 1, slots := 1, locals := 39 } : Room)) (fun a U => a = #[(.long q1)] ∧ Z.Warmed39 U.vm ∧ U.heap = h0) (fun _ _ _ _ _ => True) (fun _ U o U' => ∃ v L, o = .returned v ∧ own_QV Z "java/lang/Long" "value" "J" (.long q1) n0 h0 v U'.heap L ∧ FrameEnd U o U' L ({ frames := 3, cells := 1, slots := 1, locals := 39 } : Room).cells ({ frames := 3, cells := 1, slots := 1, locals := 39 } : Room).slots) := by
  refine MetFree.of_bodySF (plainFor_of_name pn_11) hisR ?_
  intro p e s m args below meth c s₁ Bd hml0 hP hK
  obtain ⟨rfl, hZ, hh⟩ := hP
  have hx := Bd.exec
  have hby := Bd.bytes
  have hml : c.maxLocals = 3 := hml0
  have hown : s.vm.findClass "java/lang/Long" = some m.cls := findClass_of_methodNamed Bd.named
  have hnm := (name_of_methodNamed Bd.named Bd.method).1
  have X0 : Stand p l e ({ frames := 3, cells := 1, slots := 1, locals := 39 } : Room) s m #[(.long q1)] below meth c s₁ [] 0 0 := Stand.of_body Bd
  have e0 : s₁.heap = h0 := by rw [← hh, Bd.state]; rfl
  have N0 := Fr.nil n0
  have pre0 : ∀ t, Steps p.tables e below (s₁.setTop (mkF m 0 #[.val (.long q1), .second, .unset] [])) t → Steps p.tables e below (s₁.setTop (entryFrame m #[(.long q1)] 3)) t := fun t k => castTop (ef_4_J m q1) k
  obtain ⟨T1, h1, X1, e1, E1, A1, D1, -, st1⟩ := newO X0 hx hZ hown (hw _ (List.mem_of_getElem? (i := 30) rfl)) (hw _ (List.mem_of_getElem? (i := 31) rfl)) (hw _ (List.mem_of_getElem? (i := 26) rfl)) e0 (g := (mkF m 31 #[.val (.long q1), .second, .val (.int (128 : Int32))] [])) rfl (hb hby d4_31) (by decide) (by decide)
  obtain ⟨b1, gq1⟩ : ∃ z, z = h0.size := ⟨_, rfl⟩
  rw [← gq1] at A1 D1 st1
  have g_b1 : n0 ≤ b1 := Nat.le_trans ((O0.1 ▸ O0.2.1) : n0 ≤ h0.size) (Nat.le_of_eq gq1.symm)
  have sz_b1 : h0.size ≤ b1 := Nat.le_trans (Keep.refl h0 []).1 (Nat.le_of_eq gq1.symm)
  have KK1 : Keep h0 h1 [] := (Keep.refl h0 []).ext E1
  have O1 := O0.ext E1
  have F_value_b1 : Fld Z h1 b1 "java/lang/Long" "value" "J" (.long (0 : Int64)) := D1 (Or.inr (hw _ (List.mem_of_getElem? (i := 44) rfl))) (ty := .long) (by decide)
  obtain ⟨_, _, ⟨T2, L2, k2, n2⟩, -, X2, ⟨Lc2, hQ2, l2, y2, z2⟩, st2⟩ := X1.specialBack hx (y := (⟨"java/lang/Long", "<init>", "(J)V"⟩ : MethodName)) rfl hown (mvT hZ (hw _ (List.mem_of_getElem? (i := 32) rfl))) (mvT hZ (hw _ (List.mem_of_getElem? (i := 33) rfl))) (mvT hZ (hw _ (List.mem_of_getElem? (i := 35) rfl))) (by decide) (backOf (W := 1) (rm5_0 l Z a0 hw b1 q1 h1 n0 O1 A1 F_value_b1 g_b1) hZ (hw _ (List.mem_of_getElem? (i := 35) rfl)) (hw _ (List.mem_of_getElem? (i := 26) rfl)) (by decide) (by decide)) (g := (mkF m 36 #[.val (.long q1), .second, .val (.int (128 : Int32))] [(.long q1), (.ref b1), (.ref b1)])) rfl (by rw [hml]; rfl) (Steps.refl _) (a := b1) (argsL := [(.long q1)]) (rest := [(.ref b1)]) (lenOf pd_13 rfl) rfl (by show 2 * 0 + _ ≤ _; exact Nat.le_of_eq rfl) (hb hby d4_36) (fun _ _ => ⟨rfl, e1, (by decide : 1 + 0 ≤ _), (by decide : 1 + 0 ≤ _)⟩)
  dsimp only [Pt.U, Pt.locs, Pt.cells, Pt.slots] at X2 l2 y2 z2 st2 hQ2
  subst l2 y2 z2
  obtain ⟨rfl, N2q, K2, f2_0⟩ := hQ2
  have KK2 : Keep h0 T2.heap [] := KK1.trans K2 (allS (Or.inr sz_b1) all0)
  have O2 := O1.keep K2 (allS g_b1 all0)
  have N2 := Fr.app N0 N2q
  obtain ⟨fs, hr, hrun, hended, hW, hsame⟩ := X2.leave (v := (some (.ref b1))) (fun h => by rw [Bd.returns] at h; cases h)
  refine ⟨_, _, pre0 _ ?_, hrun, hended, _, _, rfl, ?_, ⟨_, rfl⟩, hW, hsame.mono (by decide) (by decide)⟩
  · show Steps p.tables e below (s₁.setTop (mkF m 0 #[.val (.long q1), .second, .unset] [])) _
    refine XS.sipush X0.here hx rfl (hb hby d4_0) ?_
    show Steps p.tables e below (s₁.setTop (mkF m 3 #[.val (.long q1), .second, .unset] [(.int (128 : Int32))])) _
    refine XS.istoreN X0.here hx rfl (hb hby d4_3) rfl (l' := #[.val (.long q1), .second, .val (.int (128 : Int32))]) rfl ?_
    show Steps p.tables e below (s₁.setTop (mkF m 4 #[.val (.long q1), .second, .val (.int (128 : Int32))] [])) _
    refine XS.lloadN X0.here hx rfl (hb hby d4_4) rfl ?_
    show Steps p.tables e below (s₁.setTop (mkF m 5 #[.val (.long q1), .second, .val (.int (128 : Int32))] [(.long q1)])) _
    refine X0.ldc2Long hx hown (mvT hZ (hw _ (List.mem_of_getElem? (i := 28) rfl))) (g := (mkF m 5 #[.val (.long q1), .second, .val (.int (128 : Int32))] [(.long q1)])) rfl (hb hby d4_5) _ ?_
    show Steps p.tables e below (s₁.setTop (mkF m 8 #[.val (.long q1), .second, .val (.int (128 : Int32))] [(.long (-128 : Int64)), (.long q1)])) _
    refine XS.lcmp X0.here hx rfl (hb hby d4_8) rfl ?_
    show Steps p.tables e below (s₁.setTop (mkF m 9 #[.val (.long q1), .second, .val (.int (128 : Int32))] [(.int (lcmpW q1 (-128 : Int64)))])) _
    refine XS.ifYes X0.here hx rfl (pc0 := 9) (pc' := 31) rfl (hb hby d4_9) rfl ((if0 _ _).trans (tlt P1).1) (by decide) (by decide) ?_
    show Steps p.tables e below (s₁.setTop (mkF m 31 #[.val (.long q1), .second, .val (.int (128 : Int32))] [])) _
    refine st1 _ ?_
    show Steps p.tables e below (T1.setTop (mkF m 34 #[.val (.long q1), .second, .val (.int (128 : Int32))] [(.ref b1)])) _
    refine XS.dup X1.here hx rfl (hb hby d4_34) rfl rfl ?_
    show Steps p.tables e below (T1.setTop (mkF m 35 #[.val (.long q1), .second, .val (.int (128 : Int32))] [(.ref b1), (.ref b1)])) _
    refine XS.lloadN X1.here hx rfl (hb hby d4_35) rfl ?_
    show Steps p.tables e below (T1.setTop (mkF m 36 #[.val (.long q1), .second, .val (.int (128 : Int32))] [(.long q1), (.ref b1), (.ref b1)])) _
    refine st2.trans ?_
    show Steps p.tables e below (T2.setTop (mkF m 39 #[.val (.long q1), .second, .val (.int (128 : Int32))] [(.ref b1)])) _
    exact retA X2 hx Bd.returns rfl rfl rfl (hb hby d4_39) hr
  · show own_QV Z "java/lang/Long" "value" "J" (.long q1) n0 h0 _ T2.heap _
    exact ⟨b1, rfl, N2, KK2, (A1.keep K2), f2_0⟩
set_option maxRecDepth 65536 in
set_option maxHeartbeats 40000000 in
theorem rm4_1 (l : Launch) (Z : State) (a0 : Array Value) (hw : ∀ d ∈ tables_1, d.before a0 Z = true) (q1 : Int64) (h0 : Heap) (n0 : Nat) (O0 : Old Z n0 h0) (P1 : ¬ ((lcmpW q1 (-128 : Int64)) < (0 : Int32))) (P2 : (0 : Int32) < (lcmpW q1 (127 : Int64))) :
    MetFree l (⟨"java/lang/Long", "valueOf", "(J)Ljava/lang/Long;"⟩ : MethodName) (head1 [Jvm.Cond.code (⟨"java/lang/Long", "valueOf", "(J)Ljava/lang/Long;"⟩ : MethodName) jdk_35_method_24_code 3 (some (.object "java/lang/Long"))] ({ frames := 3, cells := 1, slots := 1, locals := 39 } : Room)) (fun a U => a = #[(.long q1)] ∧ Z.Warmed39 U.vm ∧ U.heap = h0) (fun _ _ _ _ _ => True) (fun _ U o U' => ∃ v L, o = .returned v ∧ own_QV Z "java/lang/Long" "value" "J" (.long q1) n0 h0 v U'.heap L ∧ FrameEnd U o U' L ({ frames := 3, cells := 1, slots := 1, locals := 39 } : Room).cells ({ frames := 3, cells := 1, slots := 1, locals := 39 } : Room).slots) := by
  refine MetFree.of_bodySF (plainFor_of_name pn_11) hisR ?_
  intro p e s m args below meth c s₁ Bd hml0 hP hK
  obtain ⟨rfl, hZ, hh⟩ := hP
  have hx := Bd.exec
  have hby := Bd.bytes
  have hml : c.maxLocals = 3 := hml0
  have hown : s.vm.findClass "java/lang/Long" = some m.cls := findClass_of_methodNamed Bd.named
  have hnm := (name_of_methodNamed Bd.named Bd.method).1
  have X0 : Stand p l e ({ frames := 3, cells := 1, slots := 1, locals := 39 } : Room) s m #[(.long q1)] below meth c s₁ [] 0 0 := Stand.of_body Bd
  have e0 : s₁.heap = h0 := by rw [← hh, Bd.state]; rfl
  have N0 := Fr.nil n0
  have pre0 : ∀ t, Steps p.tables e below (s₁.setTop (mkF m 0 #[.val (.long q1), .second, .unset] [])) t → Steps p.tables e below (s₁.setTop (entryFrame m #[(.long q1)] 3)) t := fun t k => castTop (ef_4_J m q1) k
  obtain ⟨T1, h1, X1, e1, E1, A1, D1, -, st1⟩ := newO X0 hx hZ hown (hw _ (List.mem_of_getElem? (i := 30) rfl)) (hw _ (List.mem_of_getElem? (i := 31) rfl)) (hw _ (List.mem_of_getElem? (i := 26) rfl)) e0 (g := (mkF m 31 #[.val (.long q1), .second, .val (.int (128 : Int32))] [])) rfl (hb hby d4_31) (by decide) (by decide)
  obtain ⟨b1, gq1⟩ : ∃ z, z = h0.size := ⟨_, rfl⟩
  rw [← gq1] at A1 D1 st1
  have g_b1 : n0 ≤ b1 := Nat.le_trans ((O0.1 ▸ O0.2.1) : n0 ≤ h0.size) (Nat.le_of_eq gq1.symm)
  have sz_b1 : h0.size ≤ b1 := Nat.le_trans (Keep.refl h0 []).1 (Nat.le_of_eq gq1.symm)
  have KK1 : Keep h0 h1 [] := (Keep.refl h0 []).ext E1
  have O1 := O0.ext E1
  have F_value_b1 : Fld Z h1 b1 "java/lang/Long" "value" "J" (.long (0 : Int64)) := D1 (Or.inr (hw _ (List.mem_of_getElem? (i := 44) rfl))) (ty := .long) (by decide)
  obtain ⟨_, _, ⟨T2, L2, k2, n2⟩, -, X2, ⟨Lc2, hQ2, l2, y2, z2⟩, st2⟩ := X1.specialBack hx (y := (⟨"java/lang/Long", "<init>", "(J)V"⟩ : MethodName)) rfl hown (mvT hZ (hw _ (List.mem_of_getElem? (i := 32) rfl))) (mvT hZ (hw _ (List.mem_of_getElem? (i := 33) rfl))) (mvT hZ (hw _ (List.mem_of_getElem? (i := 35) rfl))) (by decide) (backOf (W := 1) (rm5_0 l Z a0 hw b1 q1 h1 n0 O1 A1 F_value_b1 g_b1) hZ (hw _ (List.mem_of_getElem? (i := 35) rfl)) (hw _ (List.mem_of_getElem? (i := 26) rfl)) (by decide) (by decide)) (g := (mkF m 36 #[.val (.long q1), .second, .val (.int (128 : Int32))] [(.long q1), (.ref b1), (.ref b1)])) rfl (by rw [hml]; rfl) (Steps.refl _) (a := b1) (argsL := [(.long q1)]) (rest := [(.ref b1)]) (lenOf pd_13 rfl) rfl (by show 2 * 0 + _ ≤ _; exact Nat.le_of_eq rfl) (hb hby d4_36) (fun _ _ => ⟨rfl, e1, (by decide : 1 + 0 ≤ _), (by decide : 1 + 0 ≤ _)⟩)
  dsimp only [Pt.U, Pt.locs, Pt.cells, Pt.slots] at X2 l2 y2 z2 st2 hQ2
  subst l2 y2 z2
  obtain ⟨rfl, N2q, K2, f2_0⟩ := hQ2
  have KK2 : Keep h0 T2.heap [] := KK1.trans K2 (allS (Or.inr sz_b1) all0)
  have O2 := O1.keep K2 (allS g_b1 all0)
  have N2 := Fr.app N0 N2q
  obtain ⟨fs, hr, hrun, hended, hW, hsame⟩ := X2.leave (v := (some (.ref b1))) (fun h => by rw [Bd.returns] at h; cases h)
  refine ⟨_, _, pre0 _ ?_, hrun, hended, _, _, rfl, ?_, ⟨_, rfl⟩, hW, hsame.mono (by decide) (by decide)⟩
  · show Steps p.tables e below (s₁.setTop (mkF m 0 #[.val (.long q1), .second, .unset] [])) _
    refine XS.sipush X0.here hx rfl (hb hby d4_0) ?_
    show Steps p.tables e below (s₁.setTop (mkF m 3 #[.val (.long q1), .second, .unset] [(.int (128 : Int32))])) _
    refine XS.istoreN X0.here hx rfl (hb hby d4_3) rfl (l' := #[.val (.long q1), .second, .val (.int (128 : Int32))]) rfl ?_
    show Steps p.tables e below (s₁.setTop (mkF m 4 #[.val (.long q1), .second, .val (.int (128 : Int32))] [])) _
    refine XS.lloadN X0.here hx rfl (hb hby d4_4) rfl ?_
    show Steps p.tables e below (s₁.setTop (mkF m 5 #[.val (.long q1), .second, .val (.int (128 : Int32))] [(.long q1)])) _
    refine X0.ldc2Long hx hown (mvT hZ (hw _ (List.mem_of_getElem? (i := 28) rfl))) (g := (mkF m 5 #[.val (.long q1), .second, .val (.int (128 : Int32))] [(.long q1)])) rfl (hb hby d4_5) _ ?_
    show Steps p.tables e below (s₁.setTop (mkF m 8 #[.val (.long q1), .second, .val (.int (128 : Int32))] [(.long (-128 : Int64)), (.long q1)])) _
    refine XS.lcmp X0.here hx rfl (hb hby d4_8) rfl ?_
    show Steps p.tables e below (s₁.setTop (mkF m 9 #[.val (.long q1), .second, .val (.int (128 : Int32))] [(.int (lcmpW q1 (-128 : Int64)))])) _
    refine XS.ifNo X0.here hx rfl (hb hby d4_9) rfl ((if0 _ _).trans (flt P1).1) ?_
    show Steps p.tables e below (s₁.setTop (mkF m 12 #[.val (.long q1), .second, .val (.int (128 : Int32))] [])) _
    refine XS.lloadN X0.here hx rfl (hb hby d4_12) rfl ?_
    show Steps p.tables e below (s₁.setTop (mkF m 13 #[.val (.long q1), .second, .val (.int (128 : Int32))] [(.long q1)])) _
    refine X0.ldc2Long hx hown (mvT hZ (hw _ (List.mem_of_getElem? (i := 29) rfl))) (g := (mkF m 13 #[.val (.long q1), .second, .val (.int (128 : Int32))] [(.long q1)])) rfl (hb hby d4_13) _ ?_
    show Steps p.tables e below (s₁.setTop (mkF m 16 #[.val (.long q1), .second, .val (.int (128 : Int32))] [(.long (127 : Int64)), (.long q1)])) _
    refine XS.lcmp X0.here hx rfl (hb hby d4_16) rfl ?_
    show Steps p.tables e below (s₁.setTop (mkF m 17 #[.val (.long q1), .second, .val (.int (128 : Int32))] [(.int (lcmpW q1 (127 : Int64)))])) _
    refine XS.ifYes X0.here hx rfl (pc0 := 17) (pc' := 31) rfl (hb hby d4_17) rfl ((if0 _ _).trans (tlt P2).2.2.1) (by decide) (by decide) ?_
    show Steps p.tables e below (s₁.setTop (mkF m 31 #[.val (.long q1), .second, .val (.int (128 : Int32))] [])) _
    refine st1 _ ?_
    show Steps p.tables e below (T1.setTop (mkF m 34 #[.val (.long q1), .second, .val (.int (128 : Int32))] [(.ref b1)])) _
    refine XS.dup X1.here hx rfl (hb hby d4_34) rfl rfl ?_
    show Steps p.tables e below (T1.setTop (mkF m 35 #[.val (.long q1), .second, .val (.int (128 : Int32))] [(.ref b1), (.ref b1)])) _
    refine XS.lloadN X1.here hx rfl (hb hby d4_35) rfl ?_
    show Steps p.tables e below (T1.setTop (mkF m 36 #[.val (.long q1), .second, .val (.int (128 : Int32))] [(.long q1), (.ref b1), (.ref b1)])) _
    refine st2.trans ?_
    show Steps p.tables e below (T2.setTop (mkF m 39 #[.val (.long q1), .second, .val (.int (128 : Int32))] [(.ref b1)])) _
    exact retA X2 hx Bd.returns rfl rfl rfl (hb hby d4_39) hr
  · show own_QV Z "java/lang/Long" "value" "J" (.long q1) n0 h0 _ T2.heap _
    exact ⟨b1, rfl, N2, KK2, (A1.keep K2), f2_0⟩
set_option maxRecDepth 65536 in
set_option maxHeartbeats 40000000 in
theorem rm4_2 (l : Launch) (Z : State) (a0 : Array Value) (hw : ∀ d ∈ tables_1, d.before a0 Z = true) (q1 : Int64) (w_cacheJ : Addr) (h0 : Heap) (n0 : Nat) (O0 : Old Z n0 h0) (P1 : ¬ ((lcmpW q1 (-128 : Int64)) < (0 : Int32))) (P2 : ¬ ((0 : Int32) < (lcmpW q1 (127 : Int64)))) (P3 : Sta Z Z.heap "java/lang/Long$LongCache" "cache" "[Ljava/lang/Long;" (.ref w_cacheJ)) (P4 : own_CaJ Z w_cacheJ) (P5 : ¬ (((q1.toInt32) + (128 : Int32)) < (0 : Int32))) (P6 : ((q1.toInt32) + (128 : Int32)) < (256 : Int32)) :
    MetFree l (⟨"java/lang/Long", "valueOf", "(J)Ljava/lang/Long;"⟩ : MethodName) (head1 [Jvm.Cond.code (⟨"java/lang/Long", "valueOf", "(J)Ljava/lang/Long;"⟩ : MethodName) jdk_35_method_24_code 3 (some (.object "java/lang/Long"))] ({ frames := 3, cells := 1, slots := 1, locals := 39 } : Room)) (fun a U => a = #[(.long q1)] ∧ Z.Warmed39 U.vm ∧ U.heap = h0) (fun _ _ _ _ _ => True) (fun _ U o U' => ∃ v L, o = .returned v ∧ own_QV Z "java/lang/Long" "value" "J" (.long q1) n0 h0 v U'.heap L ∧ FrameEnd U o U' L ({ frames := 3, cells := 1, slots := 1, locals := 39 } : Room).cells ({ frames := 3, cells := 1, slots := 1, locals := 39 } : Room).slots) := by
  refine MetFree.of_bodySF (plainFor_of_name pn_11) hisR ?_
  intro p e s m args below meth c s₁ Bd hml0 hP hK
  obtain ⟨rfl, hZ, hh⟩ := hP
  have hx := Bd.exec
  have hby := Bd.bytes
  have hml : c.maxLocals = 3 := hml0
  have hown : s.vm.findClass "java/lang/Long" = some m.cls := findClass_of_methodNamed Bd.named
  have hnm := (name_of_methodNamed Bd.named Bd.method).1
  have X0 : Stand p l e ({ frames := 3, cells := 1, slots := 1, locals := 39 } : Room) s m #[(.long q1)] below meth c s₁ [] 0 0 := Stand.of_body Bd
  have e0 : s₁.heap = h0 := by rw [← hh, Bd.state]; rfl
  have N0 := Fr.nil n0
  have pre0 : ∀ t, Steps p.tables e below (s₁.setTop (mkF m 0 #[.val (.long q1), .second, .unset] [])) t → Steps p.tables e below (s₁.setTop (entryFrame m #[(.long q1)] 3)) t := fun t k => castTop (ef_4_J m q1) k
  have hbx : (((q1.toInt32) + (128 : Int32)) - 128).toInt64 = q1 := by
    have u1 := c_l2i q1; have u2 := rng64 q1; have u3 := rng32 (q1.toInt32)
    rw [← Int64.toInt_inj, c_i2l]
    have v1 := c_iadd (q1.toInt32) (128 : Int32); have v2 := rng32 ((q1.toInt32) + (128 : Int32)); have v3 := c_isub ((q1.toInt32) + (128 : Int32)) (128 : Int32); have v4 := rng32 (((q1.toInt32) + (128 : Int32)) - 128)
    have z128 : (128 : Int32).toInt = 128 := rfl
    have w1 : ¬ (q1.toInt < (-128 : Int64).toInt) := fun h => P1 ((lw_lt _ _).mpr (Int64.lt_iff_toInt_lt.mpr h))
    have w2 : ¬ ((127 : Int64).toInt < q1.toInt) := fun h => P2 ((lw_gt _ _).mpr (Int64.lt_iff_toInt_lt.mpr h))
    have z1 : (-128 : Int64).toInt = -128 := rfl; have z2 : (127 : Int64).toInt = 127 := rfl
    omega
  obtain ⟨T1, X1, e1, st1⟩ := getS2 X0 hx hZ hown (host := "") (Or.inl (hw _ (List.mem_of_getElem? (i := 48) rfl))) Via.refl e0 (P3.ext O0.2) (g := (mkF m 20 #[.val (.long q1), .second, .val (.int (128 : Int32))] [])) rfl (hb hby d4_20)
  obtain ⟨cl2, Ag2, hall2⟩ := P4
  obtain ⟨hin2, bl2, hat2, El2, Fl2⟩ := hall2 ((q1.toInt32) + (128 : Int32)) P5 P6
  have Ar2 := Ag2.ext O0.2
  obtain ⟨fs, hr, hrun, hended, hW, hsame⟩ := X1.leave (v := (some (.ref bl2))) (fun h => by rw [Bd.returns] at h; cases h)
  refine ⟨_, _, pre0 _ ?_, hrun, hended, _, _, rfl, ?_, ⟨_, rfl⟩, hW, hsame.mono (by decide) (by decide)⟩
  · show Steps p.tables e below (s₁.setTop (mkF m 0 #[.val (.long q1), .second, .unset] [])) _
    refine XS.sipush X0.here hx rfl (hb hby d4_0) ?_
    show Steps p.tables e below (s₁.setTop (mkF m 3 #[.val (.long q1), .second, .unset] [(.int (128 : Int32))])) _
    refine XS.istoreN X0.here hx rfl (hb hby d4_3) rfl (l' := #[.val (.long q1), .second, .val (.int (128 : Int32))]) rfl ?_
    show Steps p.tables e below (s₁.setTop (mkF m 4 #[.val (.long q1), .second, .val (.int (128 : Int32))] [])) _
    refine XS.lloadN X0.here hx rfl (hb hby d4_4) rfl ?_
    show Steps p.tables e below (s₁.setTop (mkF m 5 #[.val (.long q1), .second, .val (.int (128 : Int32))] [(.long q1)])) _
    refine X0.ldc2Long hx hown (mvT hZ (hw _ (List.mem_of_getElem? (i := 28) rfl))) (g := (mkF m 5 #[.val (.long q1), .second, .val (.int (128 : Int32))] [(.long q1)])) rfl (hb hby d4_5) _ ?_
    show Steps p.tables e below (s₁.setTop (mkF m 8 #[.val (.long q1), .second, .val (.int (128 : Int32))] [(.long (-128 : Int64)), (.long q1)])) _
    refine XS.lcmp X0.here hx rfl (hb hby d4_8) rfl ?_
    show Steps p.tables e below (s₁.setTop (mkF m 9 #[.val (.long q1), .second, .val (.int (128 : Int32))] [(.int (lcmpW q1 (-128 : Int64)))])) _
    refine XS.ifNo X0.here hx rfl (hb hby d4_9) rfl ((if0 _ _).trans (flt P1).1) ?_
    show Steps p.tables e below (s₁.setTop (mkF m 12 #[.val (.long q1), .second, .val (.int (128 : Int32))] [])) _
    refine XS.lloadN X0.here hx rfl (hb hby d4_12) rfl ?_
    show Steps p.tables e below (s₁.setTop (mkF m 13 #[.val (.long q1), .second, .val (.int (128 : Int32))] [(.long q1)])) _
    refine X0.ldc2Long hx hown (mvT hZ (hw _ (List.mem_of_getElem? (i := 29) rfl))) (g := (mkF m 13 #[.val (.long q1), .second, .val (.int (128 : Int32))] [(.long q1)])) rfl (hb hby d4_13) _ ?_
    show Steps p.tables e below (s₁.setTop (mkF m 16 #[.val (.long q1), .second, .val (.int (128 : Int32))] [(.long (127 : Int64)), (.long q1)])) _
    refine XS.lcmp X0.here hx rfl (hb hby d4_16) rfl ?_
    show Steps p.tables e below (s₁.setTop (mkF m 17 #[.val (.long q1), .second, .val (.int (128 : Int32))] [(.int (lcmpW q1 (127 : Int64)))])) _
    refine XS.ifNo X0.here hx rfl (hb hby d4_17) rfl ((if0 _ _).trans (flt P2).2.2.1) ?_
    show Steps p.tables e below (s₁.setTop (mkF m 20 #[.val (.long q1), .second, .val (.int (128 : Int32))] [])) _
    refine st1 _ ?_
    show Steps p.tables e below (T1.setTop (mkF m 23 #[.val (.long q1), .second, .val (.int (128 : Int32))] [(.ref w_cacheJ)])) _
    refine XS.lloadN X1.here hx rfl (hb hby d4_23) rfl ?_
    show Steps p.tables e below (T1.setTop (mkF m 24 #[.val (.long q1), .second, .val (.int (128 : Int32))] [(.long q1), (.ref w_cacheJ)])) _
    refine XS.l2i X1.here hx rfl (hb hby d4_24) rfl ?_
    show Steps p.tables e below (T1.setTop (mkF m 25 #[.val (.long q1), .second, .val (.int (128 : Int32))] [(.int (q1.toInt32)), (.ref w_cacheJ)])) _
    refine XS.sipush X1.here hx rfl (hb hby d4_25) ?_
    show Steps p.tables e below (T1.setTop (mkF m 28 #[.val (.long q1), .second, .val (.int (128 : Int32))] [(.int (128 : Int32)), (.int (q1.toInt32)), (.ref w_cacheJ)])) _
    refine XS.iadd X1.here hx rfl (hb hby d4_28) rfl ?_
    show Steps p.tables e below (T1.setTop (mkF m 29 #[.val (.long q1), .second, .val (.int (128 : Int32))] [(.int ((q1.toInt32) + (128 : Int32))), (.ref w_cacheJ)])) _
    refine X1.aaload hx (j := ((q1.toInt32) + (128 : Int32))) (v := .ref bl2) (by rw [e1]; exact Ar2.1) (State.isArrayOf_alike hZ.alike Ar2.2.1) rfl Ar2.2.2 hin2 hat2 (g := (mkF m 29 #[.val (.long q1), .second, .val (.int (128 : Int32))] [(.int ((q1.toInt32) + (128 : Int32))), (.ref w_cacheJ)])) rfl rfl (hb hby d4_29) _ ?_
    show Steps p.tables e below (T1.setTop (mkF m 30 #[.val (.long q1), .second, .val (.int (128 : Int32))] [(.ref bl2)])) _
    exact retA X1 hx Bd.returns rfl rfl rfl (hb hby d4_30) hr
  · show own_QV Z "java/lang/Long" "value" "J" (.long q1) n0 h0 _ T1.heap _
    rw [e1]
    exact ⟨bl2, rfl, N0, (Keep.refl h0 []), (El2.ext O0.2), (by rw [← hbx]; exact (Fl2.ext O0.2))⟩
theorem val_J (l : Launch) (Z : State) (a0 : Array Value) (hw : ∀ d ∈ tables_1, d.before a0 Z = true) (q1 : Int64) (w_cacheJ : Addr) (h0 : Heap) (n0 : Nat) (O0 : Old Z n0 h0) (P1 : Sta Z Z.heap "java/lang/Long$LongCache" "cache" "[Ljava/lang/Long;" (.ref w_cacheJ)) (P2 : own_CaJ Z w_cacheJ) :
    MetFree l (⟨"java/lang/Long", "valueOf", "(J)Ljava/lang/Long;"⟩ : MethodName) (head1 [Jvm.Cond.code (⟨"java/lang/Long", "valueOf", "(J)Ljava/lang/Long;"⟩ : MethodName) jdk_35_method_24_code 3 (some (.object "java/lang/Long"))] ({ frames := 3, cells := 1, slots := 1, locals := 39 } : Room)) (fun a U => a = #[(.long q1)] ∧ Z.Warmed39 U.vm ∧ U.heap = h0) (fun _ _ _ _ _ => True) (fun _ U o U' => ∃ v L, o = .returned v ∧ own_QV Z "java/lang/Long" "value" "J" (.long q1) n0 h0 v U'.heap L ∧ FrameEnd U o U' L ({ frames := 3, cells := 1, slots := 1, locals := 39 } : Room).cells ({ frames := 3, cells := 1, slots := 1, locals := 39 } : Room).slots) := by
  by_cases c1 : (lcmpW q1 (-128 : Int64)) < (0 : Int32)
  · exact rm4_0 l Z a0 hw q1 h0 n0 O0 c1
  by_cases c2 : (0 : Int32) < (lcmpW q1 (127 : Int64))
  · exact rm4_1 l Z a0 hw q1 h0 n0 O0 c1 c2
  have w1 : ¬ (q1.toInt < (-128 : Int64).toInt) := fun h => c1 ((lw_lt _ _).mpr (Int64.lt_iff_toInt_lt.mpr h))
  have w2 : ¬ ((127 : Int64).toInt < q1.toInt) := fun h => c2 ((lw_gt _ _).mpr (Int64.lt_iff_toInt_lt.mpr h))
  have z1 : (-128 : Int64).toInt = -128 := rfl
  have z2 : (127 : Int64).toInt = 127 := rfl
  have u1 := c_l2i q1
  have u3 := rng32 (q1.toInt32)
  have v1 := c_iadd (q1.toInt32) (128 : Int32)
  have v2 := rng32 ((q1.toInt32) + (128 : Int32))
  have z128 : (128 : Int32).toInt = 128 := rfl
  have z0 : (0 : Int32).toInt = 0 := rfl
  have z256 : (256 : Int32).toInt = 256 := rfl
  exact rm4_2 l Z a0 hw q1 w_cacheJ h0 n0 O0 c1 c2 P1 P2 (by rw [Int32.lt_iff_toInt_lt]; omega) (by rw [Int32.lt_iff_toInt_lt]; omega)
set_option maxRecDepth 65536 in
set_option maxHeartbeats 40000000 in
theorem rm3_6 (l : Launch) (Z : State) (a0 : Array Value) (hw : ∀ d ∈ tables_1, d.before a0 Z = true) (r1 : Addr) (r2 : Addr) (h0 : Heap) (n0 : Nat) (O0 : Old Z n0 h0) (P1 : Exa Z h0 r2 "java/lang/Long") :
    MetFree l (⟨"com/example/bide/bide/QueueCounts", "equals", "(Ljava/lang/Object;)Z"⟩ : MethodName) (head1 [Jvm.Cond.code (⟨"com/example/bide/bide/QueueCounts", "equals", "(Ljava/lang/Object;)Z"⟩ : MethodName) prog_3_method_6_code 3 (some .boolean)] ({ frames := 0, cells := 0, slots := 0, locals := 0 } : Room)) (fun a U => a = #[(.ref r1), (.ref r2)] ∧ Z.Warmed39 U.vm ∧ U.heap = h0) (fun _ _ _ _ _ => True) (fun _ U o U' => ∃ v L, o = .returned v ∧ own_QP (some (.int (0 : Int32))) n0 h0 v U'.heap L ∧ FrameEnd U o U' L ({ frames := 0, cells := 0, slots := 0, locals := 0 } : Room).cells ({ frames := 0, cells := 0, slots := 0, locals := 0 } : Room).slots) := by
  refine MetFree.of_bodySF (plainFor_of_name pn_0) hisR ?_
  intro p e s m args below meth c s₁ Bd hml0 hP hK
  obtain ⟨rfl, hZ, hh⟩ := hP
  have hx := Bd.exec
  have hby := Bd.bytes
  have hml : c.maxLocals = 3 := hml0
  have hown : s.vm.findClass "com/example/bide/bide/QueueCounts" = some m.cls := findClass_of_methodNamed Bd.named
  have hnm := (name_of_methodNamed Bd.named Bd.method).1
  have X0 : Stand p l e ({ frames := 0, cells := 0, slots := 0, locals := 0 } : Room) s m #[(.ref r1), (.ref r2)] below meth c s₁ [] 0 0 := Stand.of_body Bd
  have e0 : s₁.heap = h0 := by rw [← hh, Bd.state]; rfl
  have N0 := Fr.nil n0
  have pre0 : ∀ t, Steps p.tables e below (s₁.setTop (mkF m 0 #[.val (.ref r1), .val (.ref r2), .unset] [])) t → Steps p.tables e below (s₁.setTop (entryFrame m #[(.ref r1), (.ref r2)] 3)) t := fun t k => castTop (ef_3_RR m r1 r2) k
  obtain ⟨T1, X1, e1, st1⟩ := instNo X0 hx hZ hown (hw _ (List.mem_of_getElem? (i := 22) rfl)) e0 P1 (own_nsno (hw _ (List.mem_of_getElem? (i := 45) rfl)) (hw _ (List.mem_of_getElem? (i := 1) rfl)) (NS.step (hw _ (List.mem_of_getElem? (i := 45) rfl)) (NS.step (hw _ (List.mem_of_getElem? (i := 46) rfl)) (own_nsroot (hw _ (List.mem_of_getElem? (i := 47) rfl)) (hw _ (List.mem_of_getElem? (i := 1) rfl)) (by decide)) (by decide)) (by decide)) (by decide)) (g := (mkF m 1 #[.val (.ref r1), .val (.ref r2), .unset] [(.ref r2)])) rfl rfl (hb hby d3_1)
  obtain ⟨fs, hr, hrun, hended, hW, hsame⟩ := X1.leave (v := (some (.int (0 : Int32)))) (fun h => by rw [Bd.returns] at h; cases h)
  refine ⟨_, _, pre0 _ ?_, hrun, hended, _, _, rfl, ?_, ⟨_, rfl⟩, hW, hsame.mono (by decide) (by decide)⟩
  · show Steps p.tables e below (s₁.setTop (mkF m 0 #[.val (.ref r1), .val (.ref r2), .unset] [])) _
    refine XS.aloadN X0.here hx rfl (hb hby d3_0) rfl rfl ?_
    show Steps p.tables e below (s₁.setTop (mkF m 1 #[.val (.ref r1), .val (.ref r2), .unset] [(.ref r2)])) _
    refine st1 _ ?_
    show Steps p.tables e below (T1.setTop (mkF m 4 #[.val (.ref r1), .val (.ref r2), .unset] [(.int (0 : Int32))])) _
    refine XS.ifNo X1.here hx rfl (hb hby d3_4) rfl (by decide) ?_
    show Steps p.tables e below (T1.setTop (mkF m 7 #[.val (.ref r1), .val (.ref r2), .unset] [])) _
    refine XS.iconst X1.here hx rfl (hb hby d3_7) ?_
    show Steps p.tables e below (T1.setTop (mkF m 8 #[.val (.ref r1), .val (.ref r2), .unset] [(.int (0 : Int32))])) _
    exact retN X1 hx (t := .boolean) Bd.returns (by simp) (hb hby d3_8) hr
  · show own_QP (some (.int (0 : Int32))) n0 h0 _ T1.heap _
    rw [e1]
    exact ⟨rfl, N0, rfl⟩
set_option maxRecDepth 65536 in
set_option maxHeartbeats 40000000 in
theorem law_7 (l : Launch) (Z : State) (a0 : Array Value) (hw : ∀ d ∈ tables_1, d.before a0 Z = true) (ws : List Jvm.Cond) (q1 : Int64) (q2 : Int64) (q3 : Int64) (q4 : Int64) (q5 : Int64) (p6 : Int32) (w_cacheJ : Addr) (h0 : Heap) (n0 : Nat) (O0 : Old Z n0 h0) (P1 : (((p6.toUInt32 >>> ((4 : Int32) &&& 31).toUInt32).toInt32) &&& (3 : Int32)) = (2 : Int32)) (P2 : Sta Z Z.heap "java/lang/Long$LongCache" "cache" "[Ljava/lang/Long;" (.ref w_cacheJ)) (P3 : own_CaJ Z w_cacheJ) :
    MetFree l x (head1 (Jvm.Cond.code x code maxLocals ret :: ws) room_1) (fun a U => a = #[(.long q1), (.long q2), (.long q3), (.long q4), (.long q5), (.int p6)] ∧ Z.Warmed39 U.vm ∧ U.heap = h0) (fun _ _ _ _ _ => True) (fun _ U o U' => ∃ v L, o = .returned v ∧ own_Q1 n0 v U'.heap L ∧ FrameEnd U o U' L room_1.cells room_1.slots) := by
  refine MetFree.of_bodySF (plainFor_of_name pn_5) hisR ?_
  intro p e s m args below meth c s₁ Bd hml0 hP hK
  obtain ⟨rfl, hZ, hh⟩ := hP
  have hx := Bd.exec
  have hby := Bd.bytes
  have hml : c.maxLocals = 24 := hml0
  have hown : s.vm.findClass "com/example/bide/bide/QueueCountsEqualsPinLaw" = some m.cls := findClass_of_methodNamed Bd.named
  have hnm := (name_of_methodNamed Bd.named Bd.method).1
  have X0 : Stand p l e room_1 s m #[(.long q1), (.long q2), (.long q3), (.long q4), (.long q5), (.int p6)] below meth c s₁ [] 0 0 := Stand.of_body Bd
  have e0 : s₁.heap = h0 := by rw [← hh, Bd.state]; rfl
  have N0 := Fr.nil n0
  have pre0 : ∀ t, Steps p.tables e below (s₁.setTop (mkF m 0 #[.val (.long q1), .second, .val (.long q2), .second, .val (.long q3), .second, .val (.long q4), .second, .val (.long q5), .second, .val (.int p6), .unset, .unset, .unset, .unset, .unset, .unset, .unset, .unset, .unset, .unset, .unset, .unset, .unset] [])) t → Steps p.tables e below (s₁.setTop (entryFrame m #[(.long q1), (.long q2), (.long q3), (.long q4), (.long q5), (.int p6)] maxLocals)) t := fun t k => castTop (ef_0_JJJJJI m q1 q2 q3 q4 q5 p6) k
  obtain ⟨T1, h1, X1, e1, E1, A1, D1, -, st1⟩ := newO X0 hx hZ hown (hw _ (List.mem_of_getElem? (i := 0) rfl)) (hw _ (List.mem_of_getElem? (i := 1) rfl)) (hw _ (List.mem_of_getElem? (i := 2) rfl)) e0 (g := (mkF m 0 #[.val (.long q1), .second, .val (.long q2), .second, .val (.long q3), .second, .val (.long q4), .second, .val (.long q5), .second, .val (.int p6), .unset, .unset, .unset, .unset, .unset, .unset, .unset, .unset, .unset, .unset, .unset, .unset, .unset] [])) rfl (hb hby at_0) (by decide) (by decide)
  obtain ⟨b1, gq1⟩ : ∃ z, z = h0.size := ⟨_, rfl⟩
  rw [← gq1] at A1 D1 st1
  have g_b1 : n0 ≤ b1 := Nat.le_trans ((O0.1 ▸ O0.2.1) : n0 ≤ h0.size) (Nat.le_of_eq gq1.symm)
  have sz_b1 : h0.size ≤ b1 := Nat.le_trans (Keep.refl h0 []).1 (Nat.le_of_eq gq1.symm)
  have KK1 : Keep h0 h1 [] := (Keep.refl h0 []).ext E1
  have O1 := O0.ext E1
  have F_pending_b1 : Fld Z h1 b1 "com/example/bide/bide/QueueCounts" "pending" "J" (.long (0 : Int64)) := D1 (Or.inr (hw _ (List.mem_of_getElem? (i := 10) rfl))) (ty := .long) (by decide)
  have F_due_b1 : Fld Z h1 b1 "com/example/bide/bide/QueueCounts" "due" "J" (.long (0 : Int64)) := D1 (Or.inr (hw _ (List.mem_of_getElem? (i := 12) rfl))) (ty := .long) (by decide)
  have F_leased_b1 : Fld Z h1 b1 "com/example/bide/bide/QueueCounts" "leased" "J" (.long (0 : Int64)) := D1 (Or.inr (hw _ (List.mem_of_getElem? (i := 14) rfl))) (ty := .long) (by decide)
  have F_dead_b1 : Fld Z h1 b1 "com/example/bide/bide/QueueCounts" "dead" "J" (.long (0 : Int64)) := D1 (Or.inr (hw _ (List.mem_of_getElem? (i := 16) rfl))) (ty := .long) (by decide)
  obtain ⟨_, _, ⟨T2, L2, k2, n2⟩, -, X2, ⟨Lc2, hQ2, l2, y2, z2⟩, st2⟩ := X1.specialBack hx (y := (⟨"com/example/bide/bide/QueueCounts", "<init>", "(JJJJ)V"⟩ : MethodName)) rfl hown (mvT hZ (hw _ (List.mem_of_getElem? (i := 3) rfl))) (mvT hZ (hw _ (List.mem_of_getElem? (i := 4) rfl))) (mvT hZ (hw _ (List.mem_of_getElem? (i := 5) rfl))) (by decide) (backOf (W := 1) (rm1_0 l Z a0 hw b1 q1 q2 q3 q4 h1 n0 O1 A1 F_pending_b1 F_due_b1 F_leased_b1 F_dead_b1 g_b1) hZ (hw _ (List.mem_of_getElem? (i := 5) rfl)) (hw _ (List.mem_of_getElem? (i := 2) rfl)) (by decide) (by decide)) (g := (mkF m 10 #[.val (.long q1), .second, .val (.long q2), .second, .val (.long q3), .second, .val (.long q4), .second, .val (.long q5), .second, .val (.int p6), .unset, .unset, .unset, .unset, .unset, .unset, .unset, .unset, .unset, .unset, .unset, .unset, .unset] [(.long q4), (.long q3), (.long q2), (.long q1), (.ref b1), (.ref b1)])) rfl (by rw [hml]; rfl) (Steps.refl _) (a := b1) (argsL := [(.long q1), (.long q2), (.long q3), (.long q4)]) (rest := [(.ref b1)]) (lenOf pd_2 rfl) rfl (by show 2 * 0 + _ ≤ _; exact Nat.le_of_eq rfl) (hb hby at_10) (fun _ _ => ⟨rfl, e1, (by decide : 1 + 0 ≤ _), (by decide : 4 + 0 ≤ _)⟩)
  dsimp only [Pt.U, Pt.locs, Pt.cells, Pt.slots] at X2 l2 y2 z2 st2 hQ2
  subst l2 y2 z2
  obtain ⟨rfl, N2q, K2, f2_0, f2_1, f2_2, f2_3⟩ := hQ2
  have KK2 : Keep h0 T2.heap [] := KK1.trans K2 (allS (Or.inr sz_b1) all0)
  have O2 := O1.keep K2 (allS g_b1 all0)
  have N2 := Fr.app N0 N2q
  have dm3 : ∀ target, Steps p.tables e below (T2.setTop (mkF m 37 #[.val (.long q1), .second, .val (.long q2), .second, .val (.long q3), .second, .val (.long q4), .second, .val (.long q5), .second, .val (.int p6), .val (.ref b1), .val (.int (p6 &&& (15 : Int32))), .unset, .unset, .unset, .unset, .unset, .unset, .unset, .unset, .unset, .unset, .unset] [(.long (own_b p6 (1 : Int32) q1 q5))])) target → Steps p.tables e below (T2.setTop (mkF m 26 #[.val (.long q1), .second, .val (.long q2), .second, .val (.long q3), .second, .val (.long q4), .second, .val (.long q5), .second, .val (.int p6), .val (.ref b1), .val (.int (p6 &&& (15 : Int32))), .unset, .unset, .unset, .unset, .unset, .unset, .unset, .unset, .unset, .unset, .unset] [(.int ((p6 &&& (15 : Int32)) &&& (1 : Int32)))])) target := by
    intro target kt
    by_cases hdb : ((p6 &&& (15 : Int32)) &&& (1 : Int32)) = (0 : Int32)
    · rw [own_b_pos hdb] at kt
      show Steps p.tables e below (T2.setTop (mkF m 26 #[.val (.long q1), .second, .val (.long q2), .second, .val (.long q3), .second, .val (.long q4), .second, .val (.long q5), .second, .val (.int p6), .val (.ref b1), .val (.int (p6 &&& (15 : Int32))), .unset, .unset, .unset, .unset, .unset, .unset, .unset, .unset, .unset, .unset, .unset] [(.int ((p6 &&& (15 : Int32)) &&& (1 : Int32)))])) _
      refine XS.ifYes X2.here hx rfl (pc0 := 26) (pc' := 36) rfl (hb hby at_26) rfl ((if0 _ _).trans (teq hdb).1) (by decide) (by decide) ?_
      show Steps p.tables e below (T2.setTop (mkF m 36 #[.val (.long q1), .second, .val (.long q2), .second, .val (.long q3), .second, .val (.long q4), .second, .val (.long q5), .second, .val (.int p6), .val (.ref b1), .val (.int (p6 &&& (15 : Int32))), .unset, .unset, .unset, .unset, .unset, .unset, .unset, .unset, .unset, .unset, .unset] [])) _
      refine XS.lloadN X2.here hx rfl (hb hby at_36) rfl ?_
      exact kt
    · rw [own_b_neg hdb] at kt
      show Steps p.tables e below (T2.setTop (mkF m 26 #[.val (.long q1), .second, .val (.long q2), .second, .val (.long q3), .second, .val (.long q4), .second, .val (.long q5), .second, .val (.int p6), .val (.ref b1), .val (.int (p6 &&& (15 : Int32))), .unset, .unset, .unset, .unset, .unset, .unset, .unset, .unset, .unset, .unset, .unset] [(.int ((p6 &&& (15 : Int32)) &&& (1 : Int32)))])) _
      refine XS.ifNo X2.here hx rfl (hb hby at_26) rfl ((if0 _ _).trans (feq hdb).1) ?_
      show Steps p.tables e below (T2.setTop (mkF m 29 #[.val (.long q1), .second, .val (.long q2), .second, .val (.long q3), .second, .val (.long q4), .second, .val (.long q5), .second, .val (.int p6), .val (.ref b1), .val (.int (p6 &&& (15 : Int32))), .unset, .unset, .unset, .unset, .unset, .unset, .unset, .unset, .unset, .unset, .unset] [])) _
      refine XS.lloadN X2.here hx rfl (hb hby at_29) rfl ?_
      show Steps p.tables e below (T2.setTop (mkF m 30 #[.val (.long q1), .second, .val (.long q2), .second, .val (.long q3), .second, .val (.long q4), .second, .val (.long q5), .second, .val (.int p6), .val (.ref b1), .val (.int (p6 &&& (15 : Int32))), .unset, .unset, .unset, .unset, .unset, .unset, .unset, .unset, .unset, .unset, .unset] [(.long q1)])) _
      refine XS.lload X2.here hx rfl (hb hby at_30) rfl ?_
      show Steps p.tables e below (T2.setTop (mkF m 32 #[.val (.long q1), .second, .val (.long q2), .second, .val (.long q3), .second, .val (.long q4), .second, .val (.long q5), .second, .val (.int p6), .val (.ref b1), .val (.int (p6 &&& (15 : Int32))), .unset, .unset, .unset, .unset, .unset, .unset, .unset, .unset, .unset, .unset, .unset] [(.long q5), (.long q1)])) _
      refine XS.ladd X2.here hx rfl (hb hby at_32) rfl ?_
      show Steps p.tables e below (T2.setTop (mkF m 33 #[.val (.long q1), .second, .val (.long q2), .second, .val (.long q3), .second, .val (.long q4), .second, .val (.long q5), .second, .val (.int p6), .val (.ref b1), .val (.int (p6 &&& (15 : Int32))), .unset, .unset, .unset, .unset, .unset, .unset, .unset, .unset, .unset, .unset, .unset] [(.long (q1 + q5))])) _
      refine XS.goto X2.here hx rfl (pc0 := 33) (pc' := 37) rfl (hb hby at_33) (by decide) (by decide) ?_
      exact kt
  have dm4 : ∀ target, Steps p.tables e below (T2.setTop (mkF m 54 #[.val (.long q1), .second, .val (.long q2), .second, .val (.long q3), .second, .val (.long q4), .second, .val (.long q5), .second, .val (.int p6), .val (.ref b1), .val (.int (p6 &&& (15 : Int32))), .val (.long (own_b p6 (1 : Int32) q1 q5)), .second, .unset, .unset, .unset, .unset, .unset, .unset, .unset, .unset, .unset] [(.long (own_b p6 (2 : Int32) q2 q5))])) target → Steps p.tables e below (T2.setTop (mkF m 43 #[.val (.long q1), .second, .val (.long q2), .second, .val (.long q3), .second, .val (.long q4), .second, .val (.long q5), .second, .val (.int p6), .val (.ref b1), .val (.int (p6 &&& (15 : Int32))), .val (.long (own_b p6 (1 : Int32) q1 q5)), .second, .unset, .unset, .unset, .unset, .unset, .unset, .unset, .unset, .unset] [(.int ((p6 &&& (15 : Int32)) &&& (2 : Int32)))])) target := by
    intro target kt
    by_cases hdb : ((p6 &&& (15 : Int32)) &&& (2 : Int32)) = (0 : Int32)
    · rw [own_b_pos hdb] at kt
      show Steps p.tables e below (T2.setTop (mkF m 43 #[.val (.long q1), .second, .val (.long q2), .second, .val (.long q3), .second, .val (.long q4), .second, .val (.long q5), .second, .val (.int p6), .val (.ref b1), .val (.int (p6 &&& (15 : Int32))), .val (.long (own_b p6 (1 : Int32) q1 q5)), .second, .unset, .unset, .unset, .unset, .unset, .unset, .unset, .unset, .unset] [(.int ((p6 &&& (15 : Int32)) &&& (2 : Int32)))])) _
      refine XS.ifYes X2.here hx rfl (pc0 := 43) (pc' := 53) rfl (hb hby at_43) rfl ((if0 _ _).trans (teq hdb).1) (by decide) (by decide) ?_
      show Steps p.tables e below (T2.setTop (mkF m 53 #[.val (.long q1), .second, .val (.long q2), .second, .val (.long q3), .second, .val (.long q4), .second, .val (.long q5), .second, .val (.int p6), .val (.ref b1), .val (.int (p6 &&& (15 : Int32))), .val (.long (own_b p6 (1 : Int32) q1 q5)), .second, .unset, .unset, .unset, .unset, .unset, .unset, .unset, .unset, .unset] [])) _
      refine XS.lloadN X2.here hx rfl (hb hby at_53) rfl ?_
      exact kt
    · rw [own_b_neg hdb] at kt
      show Steps p.tables e below (T2.setTop (mkF m 43 #[.val (.long q1), .second, .val (.long q2), .second, .val (.long q3), .second, .val (.long q4), .second, .val (.long q5), .second, .val (.int p6), .val (.ref b1), .val (.int (p6 &&& (15 : Int32))), .val (.long (own_b p6 (1 : Int32) q1 q5)), .second, .unset, .unset, .unset, .unset, .unset, .unset, .unset, .unset, .unset] [(.int ((p6 &&& (15 : Int32)) &&& (2 : Int32)))])) _
      refine XS.ifNo X2.here hx rfl (hb hby at_43) rfl ((if0 _ _).trans (feq hdb).1) ?_
      show Steps p.tables e below (T2.setTop (mkF m 46 #[.val (.long q1), .second, .val (.long q2), .second, .val (.long q3), .second, .val (.long q4), .second, .val (.long q5), .second, .val (.int p6), .val (.ref b1), .val (.int (p6 &&& (15 : Int32))), .val (.long (own_b p6 (1 : Int32) q1 q5)), .second, .unset, .unset, .unset, .unset, .unset, .unset, .unset, .unset, .unset] [])) _
      refine XS.lloadN X2.here hx rfl (hb hby at_46) rfl ?_
      show Steps p.tables e below (T2.setTop (mkF m 47 #[.val (.long q1), .second, .val (.long q2), .second, .val (.long q3), .second, .val (.long q4), .second, .val (.long q5), .second, .val (.int p6), .val (.ref b1), .val (.int (p6 &&& (15 : Int32))), .val (.long (own_b p6 (1 : Int32) q1 q5)), .second, .unset, .unset, .unset, .unset, .unset, .unset, .unset, .unset, .unset] [(.long q2)])) _
      refine XS.lload X2.here hx rfl (hb hby at_47) rfl ?_
      show Steps p.tables e below (T2.setTop (mkF m 49 #[.val (.long q1), .second, .val (.long q2), .second, .val (.long q3), .second, .val (.long q4), .second, .val (.long q5), .second, .val (.int p6), .val (.ref b1), .val (.int (p6 &&& (15 : Int32))), .val (.long (own_b p6 (1 : Int32) q1 q5)), .second, .unset, .unset, .unset, .unset, .unset, .unset, .unset, .unset, .unset] [(.long q5), (.long q2)])) _
      refine XS.ladd X2.here hx rfl (hb hby at_49) rfl ?_
      show Steps p.tables e below (T2.setTop (mkF m 50 #[.val (.long q1), .second, .val (.long q2), .second, .val (.long q3), .second, .val (.long q4), .second, .val (.long q5), .second, .val (.int p6), .val (.ref b1), .val (.int (p6 &&& (15 : Int32))), .val (.long (own_b p6 (1 : Int32) q1 q5)), .second, .unset, .unset, .unset, .unset, .unset, .unset, .unset, .unset, .unset] [(.long (q2 + q5))])) _
      refine XS.goto X2.here hx rfl (pc0 := 50) (pc' := 54) rfl (hb hby at_50) (by decide) (by decide) ?_
      exact kt
  have dm5 : ∀ target, Steps p.tables e below (T2.setTop (mkF m 73 #[.val (.long q1), .second, .val (.long q2), .second, .val (.long q3), .second, .val (.long q4), .second, .val (.long q5), .second, .val (.int p6), .val (.ref b1), .val (.int (p6 &&& (15 : Int32))), .val (.long (own_b p6 (1 : Int32) q1 q5)), .second, .val (.long (own_b p6 (2 : Int32) q2 q5)), .second, .unset, .unset, .unset, .unset, .unset, .unset, .unset] [(.long (own_b p6 (4 : Int32) q3 q5))])) target → Steps p.tables e below (T2.setTop (mkF m 60 #[.val (.long q1), .second, .val (.long q2), .second, .val (.long q3), .second, .val (.long q4), .second, .val (.long q5), .second, .val (.int p6), .val (.ref b1), .val (.int (p6 &&& (15 : Int32))), .val (.long (own_b p6 (1 : Int32) q1 q5)), .second, .val (.long (own_b p6 (2 : Int32) q2 q5)), .second, .unset, .unset, .unset, .unset, .unset, .unset, .unset] [(.int ((p6 &&& (15 : Int32)) &&& (4 : Int32)))])) target := by
    intro target kt
    by_cases hdb : ((p6 &&& (15 : Int32)) &&& (4 : Int32)) = (0 : Int32)
    · rw [own_b_pos hdb] at kt
      show Steps p.tables e below (T2.setTop (mkF m 60 #[.val (.long q1), .second, .val (.long q2), .second, .val (.long q3), .second, .val (.long q4), .second, .val (.long q5), .second, .val (.int p6), .val (.ref b1), .val (.int (p6 &&& (15 : Int32))), .val (.long (own_b p6 (1 : Int32) q1 q5)), .second, .val (.long (own_b p6 (2 : Int32) q2 q5)), .second, .unset, .unset, .unset, .unset, .unset, .unset, .unset] [(.int ((p6 &&& (15 : Int32)) &&& (4 : Int32)))])) _
      refine XS.ifYes X2.here hx rfl (pc0 := 60) (pc' := 71) rfl (hb hby at_60) rfl ((if0 _ _).trans (teq hdb).1) (by decide) (by decide) ?_
      show Steps p.tables e below (T2.setTop (mkF m 71 #[.val (.long q1), .second, .val (.long q2), .second, .val (.long q3), .second, .val (.long q4), .second, .val (.long q5), .second, .val (.int p6), .val (.ref b1), .val (.int (p6 &&& (15 : Int32))), .val (.long (own_b p6 (1 : Int32) q1 q5)), .second, .val (.long (own_b p6 (2 : Int32) q2 q5)), .second, .unset, .unset, .unset, .unset, .unset, .unset, .unset] [])) _
      refine XS.lload X2.here hx rfl (hb hby at_71) rfl ?_
      exact kt
    · rw [own_b_neg hdb] at kt
      show Steps p.tables e below (T2.setTop (mkF m 60 #[.val (.long q1), .second, .val (.long q2), .second, .val (.long q3), .second, .val (.long q4), .second, .val (.long q5), .second, .val (.int p6), .val (.ref b1), .val (.int (p6 &&& (15 : Int32))), .val (.long (own_b p6 (1 : Int32) q1 q5)), .second, .val (.long (own_b p6 (2 : Int32) q2 q5)), .second, .unset, .unset, .unset, .unset, .unset, .unset, .unset] [(.int ((p6 &&& (15 : Int32)) &&& (4 : Int32)))])) _
      refine XS.ifNo X2.here hx rfl (hb hby at_60) rfl ((if0 _ _).trans (feq hdb).1) ?_
      show Steps p.tables e below (T2.setTop (mkF m 63 #[.val (.long q1), .second, .val (.long q2), .second, .val (.long q3), .second, .val (.long q4), .second, .val (.long q5), .second, .val (.int p6), .val (.ref b1), .val (.int (p6 &&& (15 : Int32))), .val (.long (own_b p6 (1 : Int32) q1 q5)), .second, .val (.long (own_b p6 (2 : Int32) q2 q5)), .second, .unset, .unset, .unset, .unset, .unset, .unset, .unset] [])) _
      refine XS.lload X2.here hx rfl (hb hby at_63) rfl ?_
      show Steps p.tables e below (T2.setTop (mkF m 65 #[.val (.long q1), .second, .val (.long q2), .second, .val (.long q3), .second, .val (.long q4), .second, .val (.long q5), .second, .val (.int p6), .val (.ref b1), .val (.int (p6 &&& (15 : Int32))), .val (.long (own_b p6 (1 : Int32) q1 q5)), .second, .val (.long (own_b p6 (2 : Int32) q2 q5)), .second, .unset, .unset, .unset, .unset, .unset, .unset, .unset] [(.long q3)])) _
      refine XS.lload X2.here hx rfl (hb hby at_65) rfl ?_
      show Steps p.tables e below (T2.setTop (mkF m 67 #[.val (.long q1), .second, .val (.long q2), .second, .val (.long q3), .second, .val (.long q4), .second, .val (.long q5), .second, .val (.int p6), .val (.ref b1), .val (.int (p6 &&& (15 : Int32))), .val (.long (own_b p6 (1 : Int32) q1 q5)), .second, .val (.long (own_b p6 (2 : Int32) q2 q5)), .second, .unset, .unset, .unset, .unset, .unset, .unset, .unset] [(.long q5), (.long q3)])) _
      refine XS.ladd X2.here hx rfl (hb hby at_67) rfl ?_
      show Steps p.tables e below (T2.setTop (mkF m 68 #[.val (.long q1), .second, .val (.long q2), .second, .val (.long q3), .second, .val (.long q4), .second, .val (.long q5), .second, .val (.int p6), .val (.ref b1), .val (.int (p6 &&& (15 : Int32))), .val (.long (own_b p6 (1 : Int32) q1 q5)), .second, .val (.long (own_b p6 (2 : Int32) q2 q5)), .second, .unset, .unset, .unset, .unset, .unset, .unset, .unset] [(.long (q3 + q5))])) _
      refine XS.goto X2.here hx rfl (pc0 := 68) (pc' := 73) rfl (hb hby at_68) (by decide) (by decide) ?_
      exact kt
  have dm6 : ∀ target, Steps p.tables e below (T2.setTop (mkF m 93 #[.val (.long q1), .second, .val (.long q2), .second, .val (.long q3), .second, .val (.long q4), .second, .val (.long q5), .second, .val (.int p6), .val (.ref b1), .val (.int (p6 &&& (15 : Int32))), .val (.long (own_b p6 (1 : Int32) q1 q5)), .second, .val (.long (own_b p6 (2 : Int32) q2 q5)), .second, .val (.long (own_b p6 (4 : Int32) q3 q5)), .second, .unset, .unset, .unset, .unset, .unset] [(.long (own_b p6 (8 : Int32) q4 q5))])) target → Steps p.tables e below (T2.setTop (mkF m 80 #[.val (.long q1), .second, .val (.long q2), .second, .val (.long q3), .second, .val (.long q4), .second, .val (.long q5), .second, .val (.int p6), .val (.ref b1), .val (.int (p6 &&& (15 : Int32))), .val (.long (own_b p6 (1 : Int32) q1 q5)), .second, .val (.long (own_b p6 (2 : Int32) q2 q5)), .second, .val (.long (own_b p6 (4 : Int32) q3 q5)), .second, .unset, .unset, .unset, .unset, .unset] [(.int ((p6 &&& (15 : Int32)) &&& (8 : Int32)))])) target := by
    intro target kt
    by_cases hdb : ((p6 &&& (15 : Int32)) &&& (8 : Int32)) = (0 : Int32)
    · rw [own_b_pos hdb] at kt
      show Steps p.tables e below (T2.setTop (mkF m 80 #[.val (.long q1), .second, .val (.long q2), .second, .val (.long q3), .second, .val (.long q4), .second, .val (.long q5), .second, .val (.int p6), .val (.ref b1), .val (.int (p6 &&& (15 : Int32))), .val (.long (own_b p6 (1 : Int32) q1 q5)), .second, .val (.long (own_b p6 (2 : Int32) q2 q5)), .second, .val (.long (own_b p6 (4 : Int32) q3 q5)), .second, .unset, .unset, .unset, .unset, .unset] [(.int ((p6 &&& (15 : Int32)) &&& (8 : Int32)))])) _
      refine XS.ifYes X2.here hx rfl (pc0 := 80) (pc' := 91) rfl (hb hby at_80) rfl ((if0 _ _).trans (teq hdb).1) (by decide) (by decide) ?_
      show Steps p.tables e below (T2.setTop (mkF m 91 #[.val (.long q1), .second, .val (.long q2), .second, .val (.long q3), .second, .val (.long q4), .second, .val (.long q5), .second, .val (.int p6), .val (.ref b1), .val (.int (p6 &&& (15 : Int32))), .val (.long (own_b p6 (1 : Int32) q1 q5)), .second, .val (.long (own_b p6 (2 : Int32) q2 q5)), .second, .val (.long (own_b p6 (4 : Int32) q3 q5)), .second, .unset, .unset, .unset, .unset, .unset] [])) _
      refine XS.lload X2.here hx rfl (hb hby at_91) rfl ?_
      exact kt
    · rw [own_b_neg hdb] at kt
      show Steps p.tables e below (T2.setTop (mkF m 80 #[.val (.long q1), .second, .val (.long q2), .second, .val (.long q3), .second, .val (.long q4), .second, .val (.long q5), .second, .val (.int p6), .val (.ref b1), .val (.int (p6 &&& (15 : Int32))), .val (.long (own_b p6 (1 : Int32) q1 q5)), .second, .val (.long (own_b p6 (2 : Int32) q2 q5)), .second, .val (.long (own_b p6 (4 : Int32) q3 q5)), .second, .unset, .unset, .unset, .unset, .unset] [(.int ((p6 &&& (15 : Int32)) &&& (8 : Int32)))])) _
      refine XS.ifNo X2.here hx rfl (hb hby at_80) rfl ((if0 _ _).trans (feq hdb).1) ?_
      show Steps p.tables e below (T2.setTop (mkF m 83 #[.val (.long q1), .second, .val (.long q2), .second, .val (.long q3), .second, .val (.long q4), .second, .val (.long q5), .second, .val (.int p6), .val (.ref b1), .val (.int (p6 &&& (15 : Int32))), .val (.long (own_b p6 (1 : Int32) q1 q5)), .second, .val (.long (own_b p6 (2 : Int32) q2 q5)), .second, .val (.long (own_b p6 (4 : Int32) q3 q5)), .second, .unset, .unset, .unset, .unset, .unset] [])) _
      refine XS.lload X2.here hx rfl (hb hby at_83) rfl ?_
      show Steps p.tables e below (T2.setTop (mkF m 85 #[.val (.long q1), .second, .val (.long q2), .second, .val (.long q3), .second, .val (.long q4), .second, .val (.long q5), .second, .val (.int p6), .val (.ref b1), .val (.int (p6 &&& (15 : Int32))), .val (.long (own_b p6 (1 : Int32) q1 q5)), .second, .val (.long (own_b p6 (2 : Int32) q2 q5)), .second, .val (.long (own_b p6 (4 : Int32) q3 q5)), .second, .unset, .unset, .unset, .unset, .unset] [(.long q4)])) _
      refine XS.lload X2.here hx rfl (hb hby at_85) rfl ?_
      show Steps p.tables e below (T2.setTop (mkF m 87 #[.val (.long q1), .second, .val (.long q2), .second, .val (.long q3), .second, .val (.long q4), .second, .val (.long q5), .second, .val (.int p6), .val (.ref b1), .val (.int (p6 &&& (15 : Int32))), .val (.long (own_b p6 (1 : Int32) q1 q5)), .second, .val (.long (own_b p6 (2 : Int32) q2 q5)), .second, .val (.long (own_b p6 (4 : Int32) q3 q5)), .second, .unset, .unset, .unset, .unset, .unset] [(.long q5), (.long q4)])) _
      refine XS.ladd X2.here hx rfl (hb hby at_87) rfl ?_
      show Steps p.tables e below (T2.setTop (mkF m 88 #[.val (.long q1), .second, .val (.long q2), .second, .val (.long q3), .second, .val (.long q4), .second, .val (.long q5), .second, .val (.int p6), .val (.ref b1), .val (.int (p6 &&& (15 : Int32))), .val (.long (own_b p6 (1 : Int32) q1 q5)), .second, .val (.long (own_b p6 (2 : Int32) q2 q5)), .second, .val (.long (own_b p6 (4 : Int32) q3 q5)), .second, .unset, .unset, .unset, .unset, .unset] [(.long (q4 + q5))])) _
      refine XS.goto X2.here hx rfl (pc0 := 88) (pc' := 93) rfl (hb hby at_88) (by decide) (by decide) ?_
      exact kt
  obtain ⟨T7, h7, X7, e7, E7, A7, D7, -, st7⟩ := newO X2 hx hZ hown (hw _ (List.mem_of_getElem? (i := 0) rfl)) (hw _ (List.mem_of_getElem? (i := 1) rfl)) (hw _ (List.mem_of_getElem? (i := 2) rfl)) rfl (g := (mkF m 95 #[.val (.long q1), .second, .val (.long q2), .second, .val (.long q3), .second, .val (.long q4), .second, .val (.long q5), .second, .val (.int p6), .val (.ref b1), .val (.int (p6 &&& (15 : Int32))), .val (.long (own_b p6 (1 : Int32) q1 q5)), .second, .val (.long (own_b p6 (2 : Int32) q2 q5)), .second, .val (.long (own_b p6 (4 : Int32) q3 q5)), .second, .val (.long (own_b p6 (8 : Int32) q4 q5)), .second, .unset, .unset, .unset] [])) rfl (hb hby at_95) (by decide) (by decide)
  obtain ⟨b7, gq7⟩ : ∃ z, z = T2.heap.size := ⟨_, rfl⟩
  rw [← gq7] at A7 D7 st7
  have g_b7 : n0 ≤ b7 := Nat.le_trans ((O2.1 ▸ O2.2.1) : n0 ≤ T2.heap.size) (Nat.le_of_eq gq7.symm)
  have sz_b7 : h0.size ≤ b7 := Nat.le_trans KK2.1 (Nat.le_of_eq gq7.symm)
  have KK7 : Keep h0 h7 [] := KK2.ext E7
  have O7 := O2.ext E7
  have F_pending_b7 : Fld Z h7 b7 "com/example/bide/bide/QueueCounts" "pending" "J" (.long (0 : Int64)) := D7 (Or.inr (hw _ (List.mem_of_getElem? (i := 10) rfl))) (ty := .long) (by decide)
  have F_due_b7 : Fld Z h7 b7 "com/example/bide/bide/QueueCounts" "due" "J" (.long (0 : Int64)) := D7 (Or.inr (hw _ (List.mem_of_getElem? (i := 12) rfl))) (ty := .long) (by decide)
  have F_leased_b7 : Fld Z h7 b7 "com/example/bide/bide/QueueCounts" "leased" "J" (.long (0 : Int64)) := D7 (Or.inr (hw _ (List.mem_of_getElem? (i := 14) rfl))) (ty := .long) (by decide)
  have F_dead_b7 : Fld Z h7 b7 "com/example/bide/bide/QueueCounts" "dead" "J" (.long (0 : Int64)) := D7 (Or.inr (hw _ (List.mem_of_getElem? (i := 16) rfl))) (ty := .long) (by decide)
  obtain ⟨_, _, ⟨T8, L8, k8, n8⟩, -, X8, ⟨Lc8, hQ8, l8, y8, z8⟩, st8⟩ := X7.specialBack hx (y := (⟨"com/example/bide/bide/QueueCounts", "<init>", "(JJJJ)V"⟩ : MethodName)) rfl hown (mvT hZ (hw _ (List.mem_of_getElem? (i := 3) rfl))) (mvT hZ (hw _ (List.mem_of_getElem? (i := 4) rfl))) (mvT hZ (hw _ (List.mem_of_getElem? (i := 5) rfl))) (by decide) (backOf (W := 1) (rm1_0 l Z a0 hw b7 (own_b p6 (1 : Int32) q1 q5) (own_b p6 (2 : Int32) q2 q5) (own_b p6 (4 : Int32) q3 q5) (own_b p6 (8 : Int32) q4 q5) h7 n0 O7 A7 F_pending_b7 F_due_b7 F_leased_b7 F_dead_b7 g_b7) hZ (hw _ (List.mem_of_getElem? (i := 5) rfl)) (hw _ (List.mem_of_getElem? (i := 2) rfl)) (by decide) (by decide)) (g := (mkF m 107 #[.val (.long q1), .second, .val (.long q2), .second, .val (.long q3), .second, .val (.long q4), .second, .val (.long q5), .second, .val (.int p6), .val (.ref b1), .val (.int (p6 &&& (15 : Int32))), .val (.long (own_b p6 (1 : Int32) q1 q5)), .second, .val (.long (own_b p6 (2 : Int32) q2 q5)), .second, .val (.long (own_b p6 (4 : Int32) q3 q5)), .second, .val (.long (own_b p6 (8 : Int32) q4 q5)), .second, .unset, .unset, .unset] [(.long (own_b p6 (8 : Int32) q4 q5)), (.long (own_b p6 (4 : Int32) q3 q5)), (.long (own_b p6 (2 : Int32) q2 q5)), (.long (own_b p6 (1 : Int32) q1 q5)), (.ref b7), (.ref b7)])) rfl (by rw [hml]; rfl) (Steps.refl _) (a := b7) (argsL := [(.long (own_b p6 (1 : Int32) q1 q5)), (.long (own_b p6 (2 : Int32) q2 q5)), (.long (own_b p6 (4 : Int32) q3 q5)), (.long (own_b p6 (8 : Int32) q4 q5))]) (rest := [(.ref b7)]) (lenOf pd_2 rfl) rfl (by show 2 * 0 + _ ≤ _; exact Nat.le_of_eq rfl) (hb hby at_107) (fun _ _ => ⟨rfl, e7, (by decide : 2 + 0 ≤ _), (by decide : 8 + 0 ≤ _)⟩)
  dsimp only [Pt.U, Pt.locs, Pt.cells, Pt.slots] at X8 l8 y8 z8 st8 hQ8
  subst l8 y8 z8
  obtain ⟨rfl, N8q, K8, f8_0, f8_1, f8_2, f8_3⟩ := hQ8
  have KK8 : Keep h0 T8.heap [] := KK7.trans K8 (allS (Or.inr sz_b7) all0)
  have O8 := O7.keep K8 (allS g_b7 all0)
  have N8 := Fr.app N2 N8q
  obtain ⟨_, _, ⟨T9, L9, k9, n9⟩, -, X9, ⟨Lc9, hQ9, l9, y9, z9⟩, st9⟩ := Jvm.LawKit.callS X8 hx (y := (⟨"java/lang/Long", "valueOf", "(J)Ljava/lang/Long;"⟩ : MethodName)) hown (mvT hZ (hw _ (List.mem_of_getElem? (i := 24) rfl))) (mvT hZ (hw _ (List.mem_of_getElem? (i := 25) rfl))) (mvT hZ (hw _ (List.mem_of_getElem? (i := 26) rfl))) (mvT hZ (hw _ (List.mem_of_getElem? (i := 27) rfl))) (by decide) (backOf (W := 1) (val_J l Z a0 hw q1 w_cacheJ T8.heap n0 O8 P2 P3) hZ (hw _ (List.mem_of_getElem? (i := 27) rfl)) (hw _ (List.mem_of_getElem? (i := 26) rfl)) (by decide) (by decide)) (g := (mkF m 150 #[.val (.long q1), .second, .val (.long q2), .second, .val (.long q3), .second, .val (.long q4), .second, .val (.long q5), .second, .val (.int p6), .val (.ref b1), .val (.int (p6 &&& (15 : Int32))), .val (.long (own_b p6 (1 : Int32) q1 q5)), .second, .val (.long (own_b p6 (2 : Int32) q2 q5)), .second, .val (.long (own_b p6 (4 : Int32) q3 q5)), .second, .val (.long (own_b p6 (8 : Int32) q4 q5)), .second, .val (.ref b7), .val (.int (2 : Int32)), .unset] [(.long q1), (.ref b1)])) rfl (by rw [hml]; rfl) (argsL := [(.long q1)]) (rest := [(.ref b1)]) (lenOf pd_15 rfl) rfl (by show 2 * 0 + _ ≤ _; exact Nat.le_of_eq rfl) (hb hby at_150) (fun _ _ => ⟨rfl, rfl, (by decide : 2 + 1 ≤ _), (by decide : 8 + 1 ≤ _)⟩)
  dsimp only [Pt.U, Pt.locs, Pt.cells, Pt.slots] at X9 l9 y9 z9 st9 hQ9
  subst l9 y9 z9
  obtain ⟨lb9, rfl, N9q, K9, f9_0, f9_1⟩ := hQ9
  have KK9 : Keep h0 T9.heap [] := KK8.trans K9 all0
  have O9 := O8.keep K9 all0
  have N9 := Fr.app N8 N9q
  have fc10 := ((((A1.keep K2).ext E7).keep K8).keep K9)
  obtain ⟨cq11, kq11, q11a, q11b, q11c⟩ := isOf hZ rfl fc10
  obtain ⟨_, _, ⟨T11, L11, k11, n11⟩, -, X11, ⟨Lc11, hQ11, l11, y11, z11⟩, st11⟩ := X9.virtualBack hx (y := (⟨"com/example/bide/bide/QueueCounts", "equals", "(Ljava/lang/Object;)Z"⟩ : MethodName)) (z := (⟨"com/example/bide/bide/QueueCounts", "equals", "(Ljava/lang/Object;)Z"⟩ : MethodName)) hown (mvT hZ (hw _ (List.mem_of_getElem? (i := 17) rfl))) (mvT hZ (hw _ (List.mem_of_getElem? (i := 18) rfl))) (notFace_of_selects (args := #[]) (mvT hZ (hw _ (List.mem_of_getElem? (i := 20) rfl)))) (mvT hZ (hw _ (List.mem_of_getElem? (i := 20) rfl))) (mvT hZ (hw _ (List.mem_of_getElem? (i := 19) rfl))) (by decide) (backOf (W := 0) (rm3_6 l Z a0 hw b1 lb9 T9.heap n0 O9 f9_0) hZ (hw _ (List.mem_of_getElem? (i := 21) rfl)) (hw _ (List.mem_of_getElem? (i := 2) rfl)) (by decide) (by decide)) q11a q11c (g := (mkF m 153 #[.val (.long q1), .second, .val (.long q2), .second, .val (.long q3), .second, .val (.long q4), .second, .val (.long q5), .second, .val (.int p6), .val (.ref b1), .val (.int (p6 &&& (15 : Int32))), .val (.long (own_b p6 (1 : Int32) q1 q5)), .second, .val (.long (own_b p6 (2 : Int32) q2 q5)), .second, .val (.long (own_b p6 (4 : Int32) q3 q5)), .second, .val (.long (own_b p6 (8 : Int32) q4 q5)), .second, .val (.ref b7), .val (.int (2 : Int32)), .unset] [(.ref lb9), (.ref b1)])) rfl (by rw [hml]; rfl) (Steps.refl _) (argsL := [(.ref lb9)]) (rest := []) (lenOf pd_4 rfl) rfl (by show 2 * 0 + _ ≤ _; exact Nat.le_of_eq rfl) (hb hby at_153) (fun _ _ => ⟨rfl, rfl, (by decide : 3 + 0 ≤ _), (by decide : 9 + 0 ≤ _)⟩)
  dsimp only [Pt.U, Pt.locs, Pt.cells, Pt.slots] at X11 l11 y11 z11 st11 hQ11
  subst l11 y11 z11
  obtain ⟨rfl, N11q, e11⟩ := hQ11
  have N11 := Fr.app N9 N11q
  obtain ⟨fs, hr, hrun, hended, hW, hsame⟩ := X11.leave (v := some (.int (1 : Int32))) (fun h => by rw [Bd.returns] at h; cases h)
  refine ⟨_, _, pre0 _ ?_, hrun, hended, _, _, rfl, ?_, ⟨_, rfl⟩, hW, hsame.mono (by decide) (by decide)⟩
  · show Steps p.tables e below (s₁.setTop (mkF m 0 #[.val (.long q1), .second, .val (.long q2), .second, .val (.long q3), .second, .val (.long q4), .second, .val (.long q5), .second, .val (.int p6), .unset, .unset, .unset, .unset, .unset, .unset, .unset, .unset, .unset, .unset, .unset, .unset, .unset] [])) _
    refine st1 _ ?_
    show Steps p.tables e below (T1.setTop (mkF m 3 #[.val (.long q1), .second, .val (.long q2), .second, .val (.long q3), .second, .val (.long q4), .second, .val (.long q5), .second, .val (.int p6), .unset, .unset, .unset, .unset, .unset, .unset, .unset, .unset, .unset, .unset, .unset, .unset, .unset] [(.ref b1)])) _
    refine XS.dup X1.here hx rfl (hb hby at_3) rfl rfl ?_
    show Steps p.tables e below (T1.setTop (mkF m 4 #[.val (.long q1), .second, .val (.long q2), .second, .val (.long q3), .second, .val (.long q4), .second, .val (.long q5), .second, .val (.int p6), .unset, .unset, .unset, .unset, .unset, .unset, .unset, .unset, .unset, .unset, .unset, .unset, .unset] [(.ref b1), (.ref b1)])) _
    refine XS.lloadN X1.here hx rfl (hb hby at_4) rfl ?_
    show Steps p.tables e below (T1.setTop (mkF m 5 #[.val (.long q1), .second, .val (.long q2), .second, .val (.long q3), .second, .val (.long q4), .second, .val (.long q5), .second, .val (.int p6), .unset, .unset, .unset, .unset, .unset, .unset, .unset, .unset, .unset, .unset, .unset, .unset, .unset] [(.long q1), (.ref b1), (.ref b1)])) _
    refine XS.lloadN X1.here hx rfl (hb hby at_5) rfl ?_
    show Steps p.tables e below (T1.setTop (mkF m 6 #[.val (.long q1), .second, .val (.long q2), .second, .val (.long q3), .second, .val (.long q4), .second, .val (.long q5), .second, .val (.int p6), .unset, .unset, .unset, .unset, .unset, .unset, .unset, .unset, .unset, .unset, .unset, .unset, .unset] [(.long q2), (.long q1), (.ref b1), (.ref b1)])) _
    refine XS.lload X1.here hx rfl (hb hby at_6) rfl ?_
    show Steps p.tables e below (T1.setTop (mkF m 8 #[.val (.long q1), .second, .val (.long q2), .second, .val (.long q3), .second, .val (.long q4), .second, .val (.long q5), .second, .val (.int p6), .unset, .unset, .unset, .unset, .unset, .unset, .unset, .unset, .unset, .unset, .unset, .unset, .unset] [(.long q3), (.long q2), (.long q1), (.ref b1), (.ref b1)])) _
    refine XS.lload X1.here hx rfl (hb hby at_8) rfl ?_
    show Steps p.tables e below (T1.setTop (mkF m 10 #[.val (.long q1), .second, .val (.long q2), .second, .val (.long q3), .second, .val (.long q4), .second, .val (.long q5), .second, .val (.int p6), .unset, .unset, .unset, .unset, .unset, .unset, .unset, .unset, .unset, .unset, .unset, .unset, .unset] [(.long q4), (.long q3), (.long q2), (.long q1), (.ref b1), (.ref b1)])) _
    refine st2.trans ?_
    show Steps p.tables e below (T2.setTop (mkF m 13 #[.val (.long q1), .second, .val (.long q2), .second, .val (.long q3), .second, .val (.long q4), .second, .val (.long q5), .second, .val (.int p6), .unset, .unset, .unset, .unset, .unset, .unset, .unset, .unset, .unset, .unset, .unset, .unset, .unset] [(.ref b1)])) _
    refine XS.astore X2.here hx rfl (hb hby at_13) rfl rfl (l' := #[.val (.long q1), .second, .val (.long q2), .second, .val (.long q3), .second, .val (.long q4), .second, .val (.long q5), .second, .val (.int p6), .val (.ref b1), .unset, .unset, .unset, .unset, .unset, .unset, .unset, .unset, .unset, .unset, .unset, .unset]) rfl ?_
    show Steps p.tables e below (T2.setTop (mkF m 15 #[.val (.long q1), .second, .val (.long q2), .second, .val (.long q3), .second, .val (.long q4), .second, .val (.long q5), .second, .val (.int p6), .val (.ref b1), .unset, .unset, .unset, .unset, .unset, .unset, .unset, .unset, .unset, .unset, .unset, .unset] [])) _
    refine XS.iload X2.here hx rfl (hb hby at_15) rfl ?_
    show Steps p.tables e below (T2.setTop (mkF m 17 #[.val (.long q1), .second, .val (.long q2), .second, .val (.long q3), .second, .val (.long q4), .second, .val (.long q5), .second, .val (.int p6), .val (.ref b1), .unset, .unset, .unset, .unset, .unset, .unset, .unset, .unset, .unset, .unset, .unset, .unset] [(.int p6)])) _
    refine XS.bipush X2.here hx rfl (hb hby at_17) ?_
    show Steps p.tables e below (T2.setTop (mkF m 19 #[.val (.long q1), .second, .val (.long q2), .second, .val (.long q3), .second, .val (.long q4), .second, .val (.long q5), .second, .val (.int p6), .val (.ref b1), .unset, .unset, .unset, .unset, .unset, .unset, .unset, .unset, .unset, .unset, .unset, .unset] [(.int (15 : Int32)), (.int p6)])) _
    refine XS.iand X2.here hx rfl (hb hby at_19) rfl ?_
    show Steps p.tables e below (T2.setTop (mkF m 20 #[.val (.long q1), .second, .val (.long q2), .second, .val (.long q3), .second, .val (.long q4), .second, .val (.long q5), .second, .val (.int p6), .val (.ref b1), .unset, .unset, .unset, .unset, .unset, .unset, .unset, .unset, .unset, .unset, .unset, .unset] [(.int (p6 &&& (15 : Int32)))])) _
    refine XS.istore X2.here hx rfl (hb hby at_20) rfl (l' := #[.val (.long q1), .second, .val (.long q2), .second, .val (.long q3), .second, .val (.long q4), .second, .val (.long q5), .second, .val (.int p6), .val (.ref b1), .val (.int (p6 &&& (15 : Int32))), .unset, .unset, .unset, .unset, .unset, .unset, .unset, .unset, .unset, .unset, .unset]) rfl ?_
    show Steps p.tables e below (T2.setTop (mkF m 22 #[.val (.long q1), .second, .val (.long q2), .second, .val (.long q3), .second, .val (.long q4), .second, .val (.long q5), .second, .val (.int p6), .val (.ref b1), .val (.int (p6 &&& (15 : Int32))), .unset, .unset, .unset, .unset, .unset, .unset, .unset, .unset, .unset, .unset, .unset] [])) _
    refine XS.iload X2.here hx rfl (hb hby at_22) rfl ?_
    show Steps p.tables e below (T2.setTop (mkF m 24 #[.val (.long q1), .second, .val (.long q2), .second, .val (.long q3), .second, .val (.long q4), .second, .val (.long q5), .second, .val (.int p6), .val (.ref b1), .val (.int (p6 &&& (15 : Int32))), .unset, .unset, .unset, .unset, .unset, .unset, .unset, .unset, .unset, .unset, .unset] [(.int (p6 &&& (15 : Int32)))])) _
    refine XS.iconst X2.here hx rfl (hb hby at_24) ?_
    show Steps p.tables e below (T2.setTop (mkF m 25 #[.val (.long q1), .second, .val (.long q2), .second, .val (.long q3), .second, .val (.long q4), .second, .val (.long q5), .second, .val (.int p6), .val (.ref b1), .val (.int (p6 &&& (15 : Int32))), .unset, .unset, .unset, .unset, .unset, .unset, .unset, .unset, .unset, .unset, .unset] [(.int (1 : Int32)), (.int (p6 &&& (15 : Int32)))])) _
    refine XS.iand X2.here hx rfl (hb hby at_25) rfl ?_
    show Steps p.tables e below (T2.setTop (mkF m 26 #[.val (.long q1), .second, .val (.long q2), .second, .val (.long q3), .second, .val (.long q4), .second, .val (.long q5), .second, .val (.int p6), .val (.ref b1), .val (.int (p6 &&& (15 : Int32))), .unset, .unset, .unset, .unset, .unset, .unset, .unset, .unset, .unset, .unset, .unset] [(.int ((p6 &&& (15 : Int32)) &&& (1 : Int32)))])) _
    refine dm3 _ ?_
    show Steps p.tables e below (T2.setTop (mkF m 37 #[.val (.long q1), .second, .val (.long q2), .second, .val (.long q3), .second, .val (.long q4), .second, .val (.long q5), .second, .val (.int p6), .val (.ref b1), .val (.int (p6 &&& (15 : Int32))), .unset, .unset, .unset, .unset, .unset, .unset, .unset, .unset, .unset, .unset, .unset] [(.long (own_b p6 (1 : Int32) q1 q5))])) _
    refine XS.lstore X2.here hx rfl (hb hby at_37) rfl (l' := #[.val (.long q1), .second, .val (.long q2), .second, .val (.long q3), .second, .val (.long q4), .second, .val (.long q5), .second, .val (.int p6), .val (.ref b1), .val (.int (p6 &&& (15 : Int32))), .val (.long (own_b p6 (1 : Int32) q1 q5)), .second, .unset, .unset, .unset, .unset, .unset, .unset, .unset, .unset, .unset]) rfl ?_
    show Steps p.tables e below (T2.setTop (mkF m 39 #[.val (.long q1), .second, .val (.long q2), .second, .val (.long q3), .second, .val (.long q4), .second, .val (.long q5), .second, .val (.int p6), .val (.ref b1), .val (.int (p6 &&& (15 : Int32))), .val (.long (own_b p6 (1 : Int32) q1 q5)), .second, .unset, .unset, .unset, .unset, .unset, .unset, .unset, .unset, .unset] [])) _
    refine XS.iload X2.here hx rfl (hb hby at_39) rfl ?_
    show Steps p.tables e below (T2.setTop (mkF m 41 #[.val (.long q1), .second, .val (.long q2), .second, .val (.long q3), .second, .val (.long q4), .second, .val (.long q5), .second, .val (.int p6), .val (.ref b1), .val (.int (p6 &&& (15 : Int32))), .val (.long (own_b p6 (1 : Int32) q1 q5)), .second, .unset, .unset, .unset, .unset, .unset, .unset, .unset, .unset, .unset] [(.int (p6 &&& (15 : Int32)))])) _
    refine XS.iconst X2.here hx rfl (hb hby at_41) ?_
    show Steps p.tables e below (T2.setTop (mkF m 42 #[.val (.long q1), .second, .val (.long q2), .second, .val (.long q3), .second, .val (.long q4), .second, .val (.long q5), .second, .val (.int p6), .val (.ref b1), .val (.int (p6 &&& (15 : Int32))), .val (.long (own_b p6 (1 : Int32) q1 q5)), .second, .unset, .unset, .unset, .unset, .unset, .unset, .unset, .unset, .unset] [(.int (2 : Int32)), (.int (p6 &&& (15 : Int32)))])) _
    refine XS.iand X2.here hx rfl (hb hby at_42) rfl ?_
    show Steps p.tables e below (T2.setTop (mkF m 43 #[.val (.long q1), .second, .val (.long q2), .second, .val (.long q3), .second, .val (.long q4), .second, .val (.long q5), .second, .val (.int p6), .val (.ref b1), .val (.int (p6 &&& (15 : Int32))), .val (.long (own_b p6 (1 : Int32) q1 q5)), .second, .unset, .unset, .unset, .unset, .unset, .unset, .unset, .unset, .unset] [(.int ((p6 &&& (15 : Int32)) &&& (2 : Int32)))])) _
    refine dm4 _ ?_
    show Steps p.tables e below (T2.setTop (mkF m 54 #[.val (.long q1), .second, .val (.long q2), .second, .val (.long q3), .second, .val (.long q4), .second, .val (.long q5), .second, .val (.int p6), .val (.ref b1), .val (.int (p6 &&& (15 : Int32))), .val (.long (own_b p6 (1 : Int32) q1 q5)), .second, .unset, .unset, .unset, .unset, .unset, .unset, .unset, .unset, .unset] [(.long (own_b p6 (2 : Int32) q2 q5))])) _
    refine XS.lstore X2.here hx rfl (hb hby at_54) rfl (l' := #[.val (.long q1), .second, .val (.long q2), .second, .val (.long q3), .second, .val (.long q4), .second, .val (.long q5), .second, .val (.int p6), .val (.ref b1), .val (.int (p6 &&& (15 : Int32))), .val (.long (own_b p6 (1 : Int32) q1 q5)), .second, .val (.long (own_b p6 (2 : Int32) q2 q5)), .second, .unset, .unset, .unset, .unset, .unset, .unset, .unset]) rfl ?_
    show Steps p.tables e below (T2.setTop (mkF m 56 #[.val (.long q1), .second, .val (.long q2), .second, .val (.long q3), .second, .val (.long q4), .second, .val (.long q5), .second, .val (.int p6), .val (.ref b1), .val (.int (p6 &&& (15 : Int32))), .val (.long (own_b p6 (1 : Int32) q1 q5)), .second, .val (.long (own_b p6 (2 : Int32) q2 q5)), .second, .unset, .unset, .unset, .unset, .unset, .unset, .unset] [])) _
    refine XS.iload X2.here hx rfl (hb hby at_56) rfl ?_
    show Steps p.tables e below (T2.setTop (mkF m 58 #[.val (.long q1), .second, .val (.long q2), .second, .val (.long q3), .second, .val (.long q4), .second, .val (.long q5), .second, .val (.int p6), .val (.ref b1), .val (.int (p6 &&& (15 : Int32))), .val (.long (own_b p6 (1 : Int32) q1 q5)), .second, .val (.long (own_b p6 (2 : Int32) q2 q5)), .second, .unset, .unset, .unset, .unset, .unset, .unset, .unset] [(.int (p6 &&& (15 : Int32)))])) _
    refine XS.iconst X2.here hx rfl (hb hby at_58) ?_
    show Steps p.tables e below (T2.setTop (mkF m 59 #[.val (.long q1), .second, .val (.long q2), .second, .val (.long q3), .second, .val (.long q4), .second, .val (.long q5), .second, .val (.int p6), .val (.ref b1), .val (.int (p6 &&& (15 : Int32))), .val (.long (own_b p6 (1 : Int32) q1 q5)), .second, .val (.long (own_b p6 (2 : Int32) q2 q5)), .second, .unset, .unset, .unset, .unset, .unset, .unset, .unset] [(.int (4 : Int32)), (.int (p6 &&& (15 : Int32)))])) _
    refine XS.iand X2.here hx rfl (hb hby at_59) rfl ?_
    show Steps p.tables e below (T2.setTop (mkF m 60 #[.val (.long q1), .second, .val (.long q2), .second, .val (.long q3), .second, .val (.long q4), .second, .val (.long q5), .second, .val (.int p6), .val (.ref b1), .val (.int (p6 &&& (15 : Int32))), .val (.long (own_b p6 (1 : Int32) q1 q5)), .second, .val (.long (own_b p6 (2 : Int32) q2 q5)), .second, .unset, .unset, .unset, .unset, .unset, .unset, .unset] [(.int ((p6 &&& (15 : Int32)) &&& (4 : Int32)))])) _
    refine dm5 _ ?_
    show Steps p.tables e below (T2.setTop (mkF m 73 #[.val (.long q1), .second, .val (.long q2), .second, .val (.long q3), .second, .val (.long q4), .second, .val (.long q5), .second, .val (.int p6), .val (.ref b1), .val (.int (p6 &&& (15 : Int32))), .val (.long (own_b p6 (1 : Int32) q1 q5)), .second, .val (.long (own_b p6 (2 : Int32) q2 q5)), .second, .unset, .unset, .unset, .unset, .unset, .unset, .unset] [(.long (own_b p6 (4 : Int32) q3 q5))])) _
    refine XS.lstore X2.here hx rfl (hb hby at_73) rfl (l' := #[.val (.long q1), .second, .val (.long q2), .second, .val (.long q3), .second, .val (.long q4), .second, .val (.long q5), .second, .val (.int p6), .val (.ref b1), .val (.int (p6 &&& (15 : Int32))), .val (.long (own_b p6 (1 : Int32) q1 q5)), .second, .val (.long (own_b p6 (2 : Int32) q2 q5)), .second, .val (.long (own_b p6 (4 : Int32) q3 q5)), .second, .unset, .unset, .unset, .unset, .unset]) rfl ?_
    show Steps p.tables e below (T2.setTop (mkF m 75 #[.val (.long q1), .second, .val (.long q2), .second, .val (.long q3), .second, .val (.long q4), .second, .val (.long q5), .second, .val (.int p6), .val (.ref b1), .val (.int (p6 &&& (15 : Int32))), .val (.long (own_b p6 (1 : Int32) q1 q5)), .second, .val (.long (own_b p6 (2 : Int32) q2 q5)), .second, .val (.long (own_b p6 (4 : Int32) q3 q5)), .second, .unset, .unset, .unset, .unset, .unset] [])) _
    refine XS.iload X2.here hx rfl (hb hby at_75) rfl ?_
    show Steps p.tables e below (T2.setTop (mkF m 77 #[.val (.long q1), .second, .val (.long q2), .second, .val (.long q3), .second, .val (.long q4), .second, .val (.long q5), .second, .val (.int p6), .val (.ref b1), .val (.int (p6 &&& (15 : Int32))), .val (.long (own_b p6 (1 : Int32) q1 q5)), .second, .val (.long (own_b p6 (2 : Int32) q2 q5)), .second, .val (.long (own_b p6 (4 : Int32) q3 q5)), .second, .unset, .unset, .unset, .unset, .unset] [(.int (p6 &&& (15 : Int32)))])) _
    refine XS.bipush X2.here hx rfl (hb hby at_77) ?_
    show Steps p.tables e below (T2.setTop (mkF m 79 #[.val (.long q1), .second, .val (.long q2), .second, .val (.long q3), .second, .val (.long q4), .second, .val (.long q5), .second, .val (.int p6), .val (.ref b1), .val (.int (p6 &&& (15 : Int32))), .val (.long (own_b p6 (1 : Int32) q1 q5)), .second, .val (.long (own_b p6 (2 : Int32) q2 q5)), .second, .val (.long (own_b p6 (4 : Int32) q3 q5)), .second, .unset, .unset, .unset, .unset, .unset] [(.int (8 : Int32)), (.int (p6 &&& (15 : Int32)))])) _
    refine XS.iand X2.here hx rfl (hb hby at_79) rfl ?_
    show Steps p.tables e below (T2.setTop (mkF m 80 #[.val (.long q1), .second, .val (.long q2), .second, .val (.long q3), .second, .val (.long q4), .second, .val (.long q5), .second, .val (.int p6), .val (.ref b1), .val (.int (p6 &&& (15 : Int32))), .val (.long (own_b p6 (1 : Int32) q1 q5)), .second, .val (.long (own_b p6 (2 : Int32) q2 q5)), .second, .val (.long (own_b p6 (4 : Int32) q3 q5)), .second, .unset, .unset, .unset, .unset, .unset] [(.int ((p6 &&& (15 : Int32)) &&& (8 : Int32)))])) _
    refine dm6 _ ?_
    show Steps p.tables e below (T2.setTop (mkF m 93 #[.val (.long q1), .second, .val (.long q2), .second, .val (.long q3), .second, .val (.long q4), .second, .val (.long q5), .second, .val (.int p6), .val (.ref b1), .val (.int (p6 &&& (15 : Int32))), .val (.long (own_b p6 (1 : Int32) q1 q5)), .second, .val (.long (own_b p6 (2 : Int32) q2 q5)), .second, .val (.long (own_b p6 (4 : Int32) q3 q5)), .second, .unset, .unset, .unset, .unset, .unset] [(.long (own_b p6 (8 : Int32) q4 q5))])) _
    refine XS.lstore X2.here hx rfl (hb hby at_93) rfl (l' := #[.val (.long q1), .second, .val (.long q2), .second, .val (.long q3), .second, .val (.long q4), .second, .val (.long q5), .second, .val (.int p6), .val (.ref b1), .val (.int (p6 &&& (15 : Int32))), .val (.long (own_b p6 (1 : Int32) q1 q5)), .second, .val (.long (own_b p6 (2 : Int32) q2 q5)), .second, .val (.long (own_b p6 (4 : Int32) q3 q5)), .second, .val (.long (own_b p6 (8 : Int32) q4 q5)), .second, .unset, .unset, .unset]) rfl ?_
    show Steps p.tables e below (T2.setTop (mkF m 95 #[.val (.long q1), .second, .val (.long q2), .second, .val (.long q3), .second, .val (.long q4), .second, .val (.long q5), .second, .val (.int p6), .val (.ref b1), .val (.int (p6 &&& (15 : Int32))), .val (.long (own_b p6 (1 : Int32) q1 q5)), .second, .val (.long (own_b p6 (2 : Int32) q2 q5)), .second, .val (.long (own_b p6 (4 : Int32) q3 q5)), .second, .val (.long (own_b p6 (8 : Int32) q4 q5)), .second, .unset, .unset, .unset] [])) _
    refine st7 _ ?_
    show Steps p.tables e below (T7.setTop (mkF m 98 #[.val (.long q1), .second, .val (.long q2), .second, .val (.long q3), .second, .val (.long q4), .second, .val (.long q5), .second, .val (.int p6), .val (.ref b1), .val (.int (p6 &&& (15 : Int32))), .val (.long (own_b p6 (1 : Int32) q1 q5)), .second, .val (.long (own_b p6 (2 : Int32) q2 q5)), .second, .val (.long (own_b p6 (4 : Int32) q3 q5)), .second, .val (.long (own_b p6 (8 : Int32) q4 q5)), .second, .unset, .unset, .unset] [(.ref b7)])) _
    refine XS.dup X7.here hx rfl (hb hby at_98) rfl rfl ?_
    show Steps p.tables e below (T7.setTop (mkF m 99 #[.val (.long q1), .second, .val (.long q2), .second, .val (.long q3), .second, .val (.long q4), .second, .val (.long q5), .second, .val (.int p6), .val (.ref b1), .val (.int (p6 &&& (15 : Int32))), .val (.long (own_b p6 (1 : Int32) q1 q5)), .second, .val (.long (own_b p6 (2 : Int32) q2 q5)), .second, .val (.long (own_b p6 (4 : Int32) q3 q5)), .second, .val (.long (own_b p6 (8 : Int32) q4 q5)), .second, .unset, .unset, .unset] [(.ref b7), (.ref b7)])) _
    refine XS.lload X7.here hx rfl (hb hby at_99) rfl ?_
    show Steps p.tables e below (T7.setTop (mkF m 101 #[.val (.long q1), .second, .val (.long q2), .second, .val (.long q3), .second, .val (.long q4), .second, .val (.long q5), .second, .val (.int p6), .val (.ref b1), .val (.int (p6 &&& (15 : Int32))), .val (.long (own_b p6 (1 : Int32) q1 q5)), .second, .val (.long (own_b p6 (2 : Int32) q2 q5)), .second, .val (.long (own_b p6 (4 : Int32) q3 q5)), .second, .val (.long (own_b p6 (8 : Int32) q4 q5)), .second, .unset, .unset, .unset] [(.long (own_b p6 (1 : Int32) q1 q5)), (.ref b7), (.ref b7)])) _
    refine XS.lload X7.here hx rfl (hb hby at_101) rfl ?_
    show Steps p.tables e below (T7.setTop (mkF m 103 #[.val (.long q1), .second, .val (.long q2), .second, .val (.long q3), .second, .val (.long q4), .second, .val (.long q5), .second, .val (.int p6), .val (.ref b1), .val (.int (p6 &&& (15 : Int32))), .val (.long (own_b p6 (1 : Int32) q1 q5)), .second, .val (.long (own_b p6 (2 : Int32) q2 q5)), .second, .val (.long (own_b p6 (4 : Int32) q3 q5)), .second, .val (.long (own_b p6 (8 : Int32) q4 q5)), .second, .unset, .unset, .unset] [(.long (own_b p6 (2 : Int32) q2 q5)), (.long (own_b p6 (1 : Int32) q1 q5)), (.ref b7), (.ref b7)])) _
    refine XS.lload X7.here hx rfl (hb hby at_103) rfl ?_
    show Steps p.tables e below (T7.setTop (mkF m 105 #[.val (.long q1), .second, .val (.long q2), .second, .val (.long q3), .second, .val (.long q4), .second, .val (.long q5), .second, .val (.int p6), .val (.ref b1), .val (.int (p6 &&& (15 : Int32))), .val (.long (own_b p6 (1 : Int32) q1 q5)), .second, .val (.long (own_b p6 (2 : Int32) q2 q5)), .second, .val (.long (own_b p6 (4 : Int32) q3 q5)), .second, .val (.long (own_b p6 (8 : Int32) q4 q5)), .second, .unset, .unset, .unset] [(.long (own_b p6 (4 : Int32) q3 q5)), (.long (own_b p6 (2 : Int32) q2 q5)), (.long (own_b p6 (1 : Int32) q1 q5)), (.ref b7), (.ref b7)])) _
    refine XS.lload X7.here hx rfl (hb hby at_105) rfl ?_
    show Steps p.tables e below (T7.setTop (mkF m 107 #[.val (.long q1), .second, .val (.long q2), .second, .val (.long q3), .second, .val (.long q4), .second, .val (.long q5), .second, .val (.int p6), .val (.ref b1), .val (.int (p6 &&& (15 : Int32))), .val (.long (own_b p6 (1 : Int32) q1 q5)), .second, .val (.long (own_b p6 (2 : Int32) q2 q5)), .second, .val (.long (own_b p6 (4 : Int32) q3 q5)), .second, .val (.long (own_b p6 (8 : Int32) q4 q5)), .second, .unset, .unset, .unset] [(.long (own_b p6 (8 : Int32) q4 q5)), (.long (own_b p6 (4 : Int32) q3 q5)), (.long (own_b p6 (2 : Int32) q2 q5)), (.long (own_b p6 (1 : Int32) q1 q5)), (.ref b7), (.ref b7)])) _
    refine st8.trans ?_
    show Steps p.tables e below (T8.setTop (mkF m 110 #[.val (.long q1), .second, .val (.long q2), .second, .val (.long q3), .second, .val (.long q4), .second, .val (.long q5), .second, .val (.int p6), .val (.ref b1), .val (.int (p6 &&& (15 : Int32))), .val (.long (own_b p6 (1 : Int32) q1 q5)), .second, .val (.long (own_b p6 (2 : Int32) q2 q5)), .second, .val (.long (own_b p6 (4 : Int32) q3 q5)), .second, .val (.long (own_b p6 (8 : Int32) q4 q5)), .second, .unset, .unset, .unset] [(.ref b7)])) _
    refine XS.astore X8.here hx rfl (hb hby at_110) rfl rfl (l' := #[.val (.long q1), .second, .val (.long q2), .second, .val (.long q3), .second, .val (.long q4), .second, .val (.long q5), .second, .val (.int p6), .val (.ref b1), .val (.int (p6 &&& (15 : Int32))), .val (.long (own_b p6 (1 : Int32) q1 q5)), .second, .val (.long (own_b p6 (2 : Int32) q2 q5)), .second, .val (.long (own_b p6 (4 : Int32) q3 q5)), .second, .val (.long (own_b p6 (8 : Int32) q4 q5)), .second, .val (.ref b7), .unset, .unset]) rfl ?_
    show Steps p.tables e below (T8.setTop (mkF m 112 #[.val (.long q1), .second, .val (.long q2), .second, .val (.long q3), .second, .val (.long q4), .second, .val (.long q5), .second, .val (.int p6), .val (.ref b1), .val (.int (p6 &&& (15 : Int32))), .val (.long (own_b p6 (1 : Int32) q1 q5)), .second, .val (.long (own_b p6 (2 : Int32) q2 q5)), .second, .val (.long (own_b p6 (4 : Int32) q3 q5)), .second, .val (.long (own_b p6 (8 : Int32) q4 q5)), .second, .val (.ref b7), .unset, .unset] [])) _
    refine XS.iload X8.here hx rfl (hb hby at_112) rfl ?_
    show Steps p.tables e below (T8.setTop (mkF m 114 #[.val (.long q1), .second, .val (.long q2), .second, .val (.long q3), .second, .val (.long q4), .second, .val (.long q5), .second, .val (.int p6), .val (.ref b1), .val (.int (p6 &&& (15 : Int32))), .val (.long (own_b p6 (1 : Int32) q1 q5)), .second, .val (.long (own_b p6 (2 : Int32) q2 q5)), .second, .val (.long (own_b p6 (4 : Int32) q3 q5)), .second, .val (.long (own_b p6 (8 : Int32) q4 q5)), .second, .val (.ref b7), .unset, .unset] [(.int p6)])) _
    refine XS.iconst X8.here hx rfl (hb hby at_114) ?_
    show Steps p.tables e below (T8.setTop (mkF m 115 #[.val (.long q1), .second, .val (.long q2), .second, .val (.long q3), .second, .val (.long q4), .second, .val (.long q5), .second, .val (.int p6), .val (.ref b1), .val (.int (p6 &&& (15 : Int32))), .val (.long (own_b p6 (1 : Int32) q1 q5)), .second, .val (.long (own_b p6 (2 : Int32) q2 q5)), .second, .val (.long (own_b p6 (4 : Int32) q3 q5)), .second, .val (.long (own_b p6 (8 : Int32) q4 q5)), .second, .val (.ref b7), .unset, .unset] [(.int (4 : Int32)), (.int p6)])) _
    refine XS.iushr X8.here hx rfl (hb hby at_115) rfl ?_
    show Steps p.tables e below (T8.setTop (mkF m 116 #[.val (.long q1), .second, .val (.long q2), .second, .val (.long q3), .second, .val (.long q4), .second, .val (.long q5), .second, .val (.int p6), .val (.ref b1), .val (.int (p6 &&& (15 : Int32))), .val (.long (own_b p6 (1 : Int32) q1 q5)), .second, .val (.long (own_b p6 (2 : Int32) q2 q5)), .second, .val (.long (own_b p6 (4 : Int32) q3 q5)), .second, .val (.long (own_b p6 (8 : Int32) q4 q5)), .second, .val (.ref b7), .unset, .unset] [(.int ((p6.toUInt32 >>> ((4 : Int32) &&& 31).toUInt32).toInt32))])) _
    refine XS.iconst X8.here hx rfl (hb hby at_116) ?_
    show Steps p.tables e below (T8.setTop (mkF m 117 #[.val (.long q1), .second, .val (.long q2), .second, .val (.long q3), .second, .val (.long q4), .second, .val (.long q5), .second, .val (.int p6), .val (.ref b1), .val (.int (p6 &&& (15 : Int32))), .val (.long (own_b p6 (1 : Int32) q1 q5)), .second, .val (.long (own_b p6 (2 : Int32) q2 q5)), .second, .val (.long (own_b p6 (4 : Int32) q3 q5)), .second, .val (.long (own_b p6 (8 : Int32) q4 q5)), .second, .val (.ref b7), .unset, .unset] [(.int (3 : Int32)), (.int ((p6.toUInt32 >>> ((4 : Int32) &&& 31).toUInt32).toInt32))])) _
    refine XS.iand X8.here hx rfl (hb hby at_117) rfl ?_
    show Steps p.tables e below (T8.setTop (mkF m 118 #[.val (.long q1), .second, .val (.long q2), .second, .val (.long q3), .second, .val (.long q4), .second, .val (.long q5), .second, .val (.int p6), .val (.ref b1), .val (.int (p6 &&& (15 : Int32))), .val (.long (own_b p6 (1 : Int32) q1 q5)), .second, .val (.long (own_b p6 (2 : Int32) q2 q5)), .second, .val (.long (own_b p6 (4 : Int32) q3 q5)), .second, .val (.long (own_b p6 (8 : Int32) q4 q5)), .second, .val (.ref b7), .unset, .unset] [(.int (((p6.toUInt32 >>> ((4 : Int32) &&& 31).toUInt32).toInt32) &&& (3 : Int32)))])) _
    rw [P1]
    show Steps p.tables e below (T8.setTop (mkF m 118 #[.val (.long q1), .second, .val (.long q2), .second, .val (.long q3), .second, .val (.long q4), .second, .val (.long q5), .second, .val (.int p6), .val (.ref b1), .val (.int (p6 &&& (15 : Int32))), .val (.long (own_b p6 (1 : Int32) q1 q5)), .second, .val (.long (own_b p6 (2 : Int32) q2 q5)), .second, .val (.long (own_b p6 (4 : Int32) q3 q5)), .second, .val (.long (own_b p6 (8 : Int32) q4 q5)), .second, .val (.ref b7), .unset, .unset] [(.int (2 : Int32))])) _
    refine XS.istore X8.here hx rfl (hb hby at_118) rfl (l' := #[.val (.long q1), .second, .val (.long q2), .second, .val (.long q3), .second, .val (.long q4), .second, .val (.long q5), .second, .val (.int p6), .val (.ref b1), .val (.int (p6 &&& (15 : Int32))), .val (.long (own_b p6 (1 : Int32) q1 q5)), .second, .val (.long (own_b p6 (2 : Int32) q2 q5)), .second, .val (.long (own_b p6 (4 : Int32) q3 q5)), .second, .val (.long (own_b p6 (8 : Int32) q4 q5)), .second, .val (.ref b7), .val (.int (2 : Int32)), .unset]) rfl ?_
    show Steps p.tables e below (T8.setTop (mkF m 120 #[.val (.long q1), .second, .val (.long q2), .second, .val (.long q3), .second, .val (.long q4), .second, .val (.long q5), .second, .val (.int p6), .val (.ref b1), .val (.int (p6 &&& (15 : Int32))), .val (.long (own_b p6 (1 : Int32) q1 q5)), .second, .val (.long (own_b p6 (2 : Int32) q2 q5)), .second, .val (.long (own_b p6 (4 : Int32) q3 q5)), .second, .val (.long (own_b p6 (8 : Int32) q4 q5)), .second, .val (.ref b7), .val (.int (2 : Int32)), .unset] [])) _
    refine XS.iload X8.here hx rfl (hb hby at_120) rfl ?_
    show Steps p.tables e below (T8.setTop (mkF m 122 #[.val (.long q1), .second, .val (.long q2), .second, .val (.long q3), .second, .val (.long q4), .second, .val (.long q5), .second, .val (.int p6), .val (.ref b1), .val (.int (p6 &&& (15 : Int32))), .val (.long (own_b p6 (1 : Int32) q1 q5)), .second, .val (.long (own_b p6 (2 : Int32) q2 q5)), .second, .val (.long (own_b p6 (4 : Int32) q3 q5)), .second, .val (.long (own_b p6 (8 : Int32) q4 q5)), .second, .val (.ref b7), .val (.int (2 : Int32)), .unset] [(.int (2 : Int32))])) _
    refine XS.iconst X8.here hx rfl (hb hby at_122) ?_
    show Steps p.tables e below (T8.setTop (mkF m 123 #[.val (.long q1), .second, .val (.long q2), .second, .val (.long q3), .second, .val (.long q4), .second, .val (.long q5), .second, .val (.int p6), .val (.ref b1), .val (.int (p6 &&& (15 : Int32))), .val (.long (own_b p6 (1 : Int32) q1 q5)), .second, .val (.long (own_b p6 (2 : Int32) q2 q5)), .second, .val (.long (own_b p6 (4 : Int32) q3 q5)), .second, .val (.long (own_b p6 (8 : Int32) q4 q5)), .second, .val (.ref b7), .val (.int (2 : Int32)), .unset] [(.int (1 : Int32)), (.int (2 : Int32))])) _
    refine XS.icmpYes X8.here hx rfl (pc0 := 123) (pc' := 141) rfl (hb hby at_123) rfl (by decide) (by decide) (by decide) ?_
    show Steps p.tables e below (T8.setTop (mkF m 141 #[.val (.long q1), .second, .val (.long q2), .second, .val (.long q3), .second, .val (.long q4), .second, .val (.long q5), .second, .val (.int p6), .val (.ref b1), .val (.int (p6 &&& (15 : Int32))), .val (.long (own_b p6 (1 : Int32) q1 q5)), .second, .val (.long (own_b p6 (2 : Int32) q2 q5)), .second, .val (.long (own_b p6 (4 : Int32) q3 q5)), .second, .val (.long (own_b p6 (8 : Int32) q4 q5)), .second, .val (.ref b7), .val (.int (2 : Int32)), .unset] [])) _
    refine XS.iload X8.here hx rfl (hb hby at_141) rfl ?_
    show Steps p.tables e below (T8.setTop (mkF m 143 #[.val (.long q1), .second, .val (.long q2), .second, .val (.long q3), .second, .val (.long q4), .second, .val (.long q5), .second, .val (.int p6), .val (.ref b1), .val (.int (p6 &&& (15 : Int32))), .val (.long (own_b p6 (1 : Int32) q1 q5)), .second, .val (.long (own_b p6 (2 : Int32) q2 q5)), .second, .val (.long (own_b p6 (4 : Int32) q3 q5)), .second, .val (.long (own_b p6 (8 : Int32) q4 q5)), .second, .val (.ref b7), .val (.int (2 : Int32)), .unset] [(.int (2 : Int32))])) _
    refine XS.iconst X8.here hx rfl (hb hby at_143) ?_
    show Steps p.tables e below (T8.setTop (mkF m 144 #[.val (.long q1), .second, .val (.long q2), .second, .val (.long q3), .second, .val (.long q4), .second, .val (.long q5), .second, .val (.int p6), .val (.ref b1), .val (.int (p6 &&& (15 : Int32))), .val (.long (own_b p6 (1 : Int32) q1 q5)), .second, .val (.long (own_b p6 (2 : Int32) q2 q5)), .second, .val (.long (own_b p6 (4 : Int32) q3 q5)), .second, .val (.long (own_b p6 (8 : Int32) q4 q5)), .second, .val (.ref b7), .val (.int (2 : Int32)), .unset] [(.int (2 : Int32)), (.int (2 : Int32))])) _
    refine XS.icmpNo X8.here hx rfl (hb hby at_144) rfl (by decide) ?_
    show Steps p.tables e below (T8.setTop (mkF m 147 #[.val (.long q1), .second, .val (.long q2), .second, .val (.long q3), .second, .val (.long q4), .second, .val (.long q5), .second, .val (.int p6), .val (.ref b1), .val (.int (p6 &&& (15 : Int32))), .val (.long (own_b p6 (1 : Int32) q1 q5)), .second, .val (.long (own_b p6 (2 : Int32) q2 q5)), .second, .val (.long (own_b p6 (4 : Int32) q3 q5)), .second, .val (.long (own_b p6 (8 : Int32) q4 q5)), .second, .val (.ref b7), .val (.int (2 : Int32)), .unset] [])) _
    refine XS.aload X8.here hx rfl (hb hby at_147) rfl rfl ?_
    show Steps p.tables e below (T8.setTop (mkF m 149 #[.val (.long q1), .second, .val (.long q2), .second, .val (.long q3), .second, .val (.long q4), .second, .val (.long q5), .second, .val (.int p6), .val (.ref b1), .val (.int (p6 &&& (15 : Int32))), .val (.long (own_b p6 (1 : Int32) q1 q5)), .second, .val (.long (own_b p6 (2 : Int32) q2 q5)), .second, .val (.long (own_b p6 (4 : Int32) q3 q5)), .second, .val (.long (own_b p6 (8 : Int32) q4 q5)), .second, .val (.ref b7), .val (.int (2 : Int32)), .unset] [(.ref b1)])) _
    refine XS.lloadN X8.here hx rfl (hb hby at_149) rfl ?_
    show Steps p.tables e below (T8.setTop (mkF m 150 #[.val (.long q1), .second, .val (.long q2), .second, .val (.long q3), .second, .val (.long q4), .second, .val (.long q5), .second, .val (.int p6), .val (.ref b1), .val (.int (p6 &&& (15 : Int32))), .val (.long (own_b p6 (1 : Int32) q1 q5)), .second, .val (.long (own_b p6 (2 : Int32) q2 q5)), .second, .val (.long (own_b p6 (4 : Int32) q3 q5)), .second, .val (.long (own_b p6 (8 : Int32) q4 q5)), .second, .val (.ref b7), .val (.int (2 : Int32)), .unset] [(.long q1), (.ref b1)])) _
    refine st9 _ ?_
    show Steps p.tables e below (T9.setTop (mkF m 153 #[.val (.long q1), .second, .val (.long q2), .second, .val (.long q3), .second, .val (.long q4), .second, .val (.long q5), .second, .val (.int p6), .val (.ref b1), .val (.int (p6 &&& (15 : Int32))), .val (.long (own_b p6 (1 : Int32) q1 q5)), .second, .val (.long (own_b p6 (2 : Int32) q2 q5)), .second, .val (.long (own_b p6 (4 : Int32) q3 q5)), .second, .val (.long (own_b p6 (8 : Int32) q4 q5)), .second, .val (.ref b7), .val (.int (2 : Int32)), .unset] [(.ref lb9), (.ref b1)])) _
    refine st11.trans ?_
    show Steps p.tables e below (T11.setTop (mkF m 156 #[.val (.long q1), .second, .val (.long q2), .second, .val (.long q3), .second, .val (.long q4), .second, .val (.long q5), .second, .val (.int p6), .val (.ref b1), .val (.int (p6 &&& (15 : Int32))), .val (.long (own_b p6 (1 : Int32) q1 q5)), .second, .val (.long (own_b p6 (2 : Int32) q2 q5)), .second, .val (.long (own_b p6 (4 : Int32) q3 q5)), .second, .val (.long (own_b p6 (8 : Int32) q4 q5)), .second, .val (.ref b7), .val (.int (2 : Int32)), .unset] [(.int (0 : Int32))])) _
    refine XS.ifNo X11.here hx rfl (hb hby at_156) rfl (by decide) ?_
    show Steps p.tables e below (T11.setTop (mkF m 159 #[.val (.long q1), .second, .val (.long q2), .second, .val (.long q3), .second, .val (.long q4), .second, .val (.long q5), .second, .val (.int p6), .val (.ref b1), .val (.int (p6 &&& (15 : Int32))), .val (.long (own_b p6 (1 : Int32) q1 q5)), .second, .val (.long (own_b p6 (2 : Int32) q2 q5)), .second, .val (.long (own_b p6 (4 : Int32) q3 q5)), .second, .val (.long (own_b p6 (8 : Int32) q4 q5)), .second, .val (.ref b7), .val (.int (2 : Int32)), .unset] [])) _
    refine XS.iconst X11.here hx rfl (hb hby at_159) ?_
    show Steps p.tables e below (T11.setTop (mkF m 160 #[.val (.long q1), .second, .val (.long q2), .second, .val (.long q3), .second, .val (.long q4), .second, .val (.long q5), .second, .val (.int p6), .val (.ref b1), .val (.int (p6 &&& (15 : Int32))), .val (.long (own_b p6 (1 : Int32) q1 q5)), .second, .val (.long (own_b p6 (2 : Int32) q2 q5)), .second, .val (.long (own_b p6 (4 : Int32) q3 q5)), .second, .val (.long (own_b p6 (8 : Int32) q4 q5)), .second, .val (.ref b7), .val (.int (2 : Int32)), .unset] [(.int (1 : Int32))])) _
    refine XS.goto X11.here hx rfl (pc0 := 160) (pc' := 164) rfl (hb hby at_160) (by decide) (by decide) ?_
    show Steps p.tables e below (T11.setTop (mkF m 164 #[.val (.long q1), .second, .val (.long q2), .second, .val (.long q3), .second, .val (.long q4), .second, .val (.long q5), .second, .val (.int p6), .val (.ref b1), .val (.int (p6 &&& (15 : Int32))), .val (.long (own_b p6 (1 : Int32) q1 q5)), .second, .val (.long (own_b p6 (2 : Int32) q2 q5)), .second, .val (.long (own_b p6 (4 : Int32) q3 q5)), .second, .val (.long (own_b p6 (8 : Int32) q4 q5)), .second, .val (.ref b7), .val (.int (2 : Int32)), .unset] [(.int (1 : Int32))])) _
    exact retN X11 hx (t := .boolean) Bd.returns (by simp) (hb hby at_164) hr
  · show own_Q1 n0 _ T11.heap _
    rw [e11]
    exact ⟨rfl, N11⟩
set_option maxRecDepth 65536 in
set_option maxHeartbeats 40000000 in
theorem rm3_7 (l : Launch) (Z : State) (a0 : Array Value) (hw : ∀ d ∈ tables_1, d.before a0 Z = true) (r1 : Addr) (q2 : Int64) (q3 : Int64) (q4 : Int64) (q5 : Int64) (h0 : Heap) (n0 : Nat) (O0 : Old Z n0 h0) (P1 : Exa Z h0 r1 "com/example/bide/bide/QueueCounts") (P2 : Fld Z h0 r1 "com/example/bide/bide/QueueCounts" "pending" "J" (.long q2)) (P3 : (lcmpW q2 q2) = (0 : Int32)) (P4 : Fld Z h0 r1 "com/example/bide/bide/QueueCounts" "due" "J" (.long q3)) (P5 : (lcmpW q3 q3) = (0 : Int32)) (P6 : Fld Z h0 r1 "com/example/bide/bide/QueueCounts" "leased" "J" (.long q4)) (P7 : (lcmpW q4 q4) = (0 : Int32)) (P8 : Fld Z h0 r1 "com/example/bide/bide/QueueCounts" "dead" "J" (.long q5)) (P9 : (lcmpW q5 q5) = (0 : Int32)) :
    MetFree l (⟨"com/example/bide/bide/QueueCounts", "equals", "(Ljava/lang/Object;)Z"⟩ : MethodName) (head1 [Jvm.Cond.code (⟨"com/example/bide/bide/QueueCounts", "equals", "(Ljava/lang/Object;)Z"⟩ : MethodName) prog_3_method_6_code 3 (some .boolean)] ({ frames := 0, cells := 0, slots := 0, locals := 0 } : Room)) (fun a U => a = #[(.ref r1), (.ref r1)] ∧ Z.Warmed39 U.vm ∧ U.heap = h0) (fun _ _ _ _ _ => True) (fun _ U o U' => ∃ v L, o = .returned v ∧ own_QP (some (.int (1 : Int32))) n0 h0 v U'.heap L ∧ FrameEnd U o U' L ({ frames := 0, cells := 0, slots := 0, locals := 0 } : Room).cells ({ frames := 0, cells := 0, slots := 0, locals := 0 } : Room).slots) := by
  refine MetFree.of_bodySF (plainFor_of_name pn_0) hisR ?_
  intro p e s m args below meth c s₁ Bd hml0 hP hK
  obtain ⟨rfl, hZ, hh⟩ := hP
  have hx := Bd.exec
  have hby := Bd.bytes
  have hml : c.maxLocals = 3 := hml0
  have hown : s.vm.findClass "com/example/bide/bide/QueueCounts" = some m.cls := findClass_of_methodNamed Bd.named
  have hnm := (name_of_methodNamed Bd.named Bd.method).1
  have X0 : Stand p l e ({ frames := 0, cells := 0, slots := 0, locals := 0 } : Room) s m #[(.ref r1), (.ref r1)] below meth c s₁ [] 0 0 := Stand.of_body Bd
  have e0 : s₁.heap = h0 := by rw [← hh, Bd.state]; rfl
  have N0 := Fr.nil n0
  have pre0 : ∀ t, Steps p.tables e below (s₁.setTop (mkF m 0 #[.val (.ref r1), .val (.ref r1), .unset] [])) t → Steps p.tables e below (s₁.setTop (entryFrame m #[(.ref r1), (.ref r1)] 3)) t := fun t k => castTop (ef_3_RR m r1 r1) k
  obtain ⟨T1, X1, e1, st1⟩ := instY X0 hx hZ hown (hw _ (List.mem_of_getElem? (i := 22) rfl)) e0 (Ins.self P1) (g := (mkF m 1 #[.val (.ref r1), .val (.ref r1), .unset] [(.ref r1)])) rfl rfl (hb hby d3_1)
  obtain ⟨T2, X2, e2, st2⟩ := castY X1 hx hZ hown (hw _ (List.mem_of_getElem? (i := 22) rfl)) e1 (Ins.self P1) (g := (mkF m 10 #[.val (.ref r1), .val (.ref r1), .unset] [(.ref r1)])) rfl rfl (hb hby d3_10)
  obtain ⟨T3, X3, e3, st3⟩ := getF X2 hx hZ hown (host := "") (Or.inl (hw _ (List.mem_of_getElem? (i := 9) rfl))) Via.refl e2 P2 (g := (mkF m 15 #[.val (.ref r1), .val (.ref r1), .val (.ref r1)] [(.ref r1)])) rfl rfl (hb hby d3_15)
  obtain ⟨T4, X4, e4, st4⟩ := getF X3 hx hZ hown (host := "") (Or.inl (hw _ (List.mem_of_getElem? (i := 9) rfl))) Via.refl e3 P2 (g := (mkF m 19 #[.val (.ref r1), .val (.ref r1), .val (.ref r1)] [(.ref r1), (.long q2)])) rfl rfl (hb hby d3_19)
  obtain ⟨T5, X5, e5, st5⟩ := getF X4 hx hZ hown (host := "") (Or.inl (hw _ (List.mem_of_getElem? (i := 11) rfl))) Via.refl e4 P4 (g := (mkF m 27 #[.val (.ref r1), .val (.ref r1), .val (.ref r1)] [(.ref r1)])) rfl rfl (hb hby d3_27)
  obtain ⟨T6, X6, e6, st6⟩ := getF X5 hx hZ hown (host := "") (Or.inl (hw _ (List.mem_of_getElem? (i := 11) rfl))) Via.refl e5 P4 (g := (mkF m 31 #[.val (.ref r1), .val (.ref r1), .val (.ref r1)] [(.ref r1), (.long q3)])) rfl rfl (hb hby d3_31)
  obtain ⟨T7, X7, e7, st7⟩ := getF X6 hx hZ hown (host := "") (Or.inl (hw _ (List.mem_of_getElem? (i := 13) rfl))) Via.refl e6 P6 (g := (mkF m 39 #[.val (.ref r1), .val (.ref r1), .val (.ref r1)] [(.ref r1)])) rfl rfl (hb hby d3_39)
  obtain ⟨T8, X8, e8, st8⟩ := getF X7 hx hZ hown (host := "") (Or.inl (hw _ (List.mem_of_getElem? (i := 13) rfl))) Via.refl e7 P6 (g := (mkF m 43 #[.val (.ref r1), .val (.ref r1), .val (.ref r1)] [(.ref r1), (.long q4)])) rfl rfl (hb hby d3_43)
  obtain ⟨T9, X9, e9, st9⟩ := getF X8 hx hZ hown (host := "") (Or.inl (hw _ (List.mem_of_getElem? (i := 15) rfl))) Via.refl e8 P8 (g := (mkF m 51 #[.val (.ref r1), .val (.ref r1), .val (.ref r1)] [(.ref r1)])) rfl rfl (hb hby d3_51)
  obtain ⟨T10, X10, e10, st10⟩ := getF X9 hx hZ hown (host := "") (Or.inl (hw _ (List.mem_of_getElem? (i := 15) rfl))) Via.refl e9 P8 (g := (mkF m 55 #[.val (.ref r1), .val (.ref r1), .val (.ref r1)] [(.ref r1), (.long q5)])) rfl rfl (hb hby d3_55)
  obtain ⟨fs, hr, hrun, hended, hW, hsame⟩ := X10.leave (v := (some (.int (1 : Int32)))) (fun h => by rw [Bd.returns] at h; cases h)
  refine ⟨_, _, pre0 _ ?_, hrun, hended, _, _, rfl, ?_, ⟨_, rfl⟩, hW, hsame.mono (by decide) (by decide)⟩
  · show Steps p.tables e below (s₁.setTop (mkF m 0 #[.val (.ref r1), .val (.ref r1), .unset] [])) _
    refine XS.aloadN X0.here hx rfl (hb hby d3_0) rfl rfl ?_
    show Steps p.tables e below (s₁.setTop (mkF m 1 #[.val (.ref r1), .val (.ref r1), .unset] [(.ref r1)])) _
    refine st1 _ ?_
    show Steps p.tables e below (T1.setTop (mkF m 4 #[.val (.ref r1), .val (.ref r1), .unset] [(.int (1 : Int32))])) _
    refine XS.ifYes X1.here hx rfl (pc0 := 4) (pc' := 9) rfl (hb hby d3_4) rfl (by decide) (by decide) (by decide) ?_
    show Steps p.tables e below (T1.setTop (mkF m 9 #[.val (.ref r1), .val (.ref r1), .unset] [])) _
    refine XS.aloadN X1.here hx rfl (hb hby d3_9) rfl rfl ?_
    show Steps p.tables e below (T1.setTop (mkF m 10 #[.val (.ref r1), .val (.ref r1), .unset] [(.ref r1)])) _
    refine st2 _ ?_
    show Steps p.tables e below (T2.setTop (mkF m 13 #[.val (.ref r1), .val (.ref r1), .unset] [(.ref r1)])) _
    refine XS.astoreN X2.here hx rfl (hb hby d3_13) rfl rfl (l' := #[.val (.ref r1), .val (.ref r1), .val (.ref r1)]) rfl ?_
    show Steps p.tables e below (T2.setTop (mkF m 14 #[.val (.ref r1), .val (.ref r1), .val (.ref r1)] [])) _
    refine XS.aloadN X2.here hx rfl (hb hby d3_14) rfl rfl ?_
    show Steps p.tables e below (T2.setTop (mkF m 15 #[.val (.ref r1), .val (.ref r1), .val (.ref r1)] [(.ref r1)])) _
    refine st3 _ ?_
    show Steps p.tables e below (T3.setTop (mkF m 18 #[.val (.ref r1), .val (.ref r1), .val (.ref r1)] [(.long q2)])) _
    refine XS.aloadN X3.here hx rfl (hb hby d3_18) rfl rfl ?_
    show Steps p.tables e below (T3.setTop (mkF m 19 #[.val (.ref r1), .val (.ref r1), .val (.ref r1)] [(.ref r1), (.long q2)])) _
    refine st4 _ ?_
    show Steps p.tables e below (T4.setTop (mkF m 22 #[.val (.ref r1), .val (.ref r1), .val (.ref r1)] [(.long q2), (.long q2)])) _
    refine XS.lcmp X4.here hx rfl (hb hby d3_22) rfl ?_
    show Steps p.tables e below (T4.setTop (mkF m 23 #[.val (.ref r1), .val (.ref r1), .val (.ref r1)] [(.int (lcmpW q2 q2))])) _
    refine XS.ifNo X4.here hx rfl (hb hby d3_23) rfl ((if0 _ _).trans (teq P3).2) ?_
    show Steps p.tables e below (T4.setTop (mkF m 26 #[.val (.ref r1), .val (.ref r1), .val (.ref r1)] [])) _
    refine XS.aloadN X4.here hx rfl (hb hby d3_26) rfl rfl ?_
    show Steps p.tables e below (T4.setTop (mkF m 27 #[.val (.ref r1), .val (.ref r1), .val (.ref r1)] [(.ref r1)])) _
    refine st5 _ ?_
    show Steps p.tables e below (T5.setTop (mkF m 30 #[.val (.ref r1), .val (.ref r1), .val (.ref r1)] [(.long q3)])) _
    refine XS.aloadN X5.here hx rfl (hb hby d3_30) rfl rfl ?_
    show Steps p.tables e below (T5.setTop (mkF m 31 #[.val (.ref r1), .val (.ref r1), .val (.ref r1)] [(.ref r1), (.long q3)])) _
    refine st6 _ ?_
    show Steps p.tables e below (T6.setTop (mkF m 34 #[.val (.ref r1), .val (.ref r1), .val (.ref r1)] [(.long q3), (.long q3)])) _
    refine XS.lcmp X6.here hx rfl (hb hby d3_34) rfl ?_
    show Steps p.tables e below (T6.setTop (mkF m 35 #[.val (.ref r1), .val (.ref r1), .val (.ref r1)] [(.int (lcmpW q3 q3))])) _
    refine XS.ifNo X6.here hx rfl (hb hby d3_35) rfl ((if0 _ _).trans (teq P5).2) ?_
    show Steps p.tables e below (T6.setTop (mkF m 38 #[.val (.ref r1), .val (.ref r1), .val (.ref r1)] [])) _
    refine XS.aloadN X6.here hx rfl (hb hby d3_38) rfl rfl ?_
    show Steps p.tables e below (T6.setTop (mkF m 39 #[.val (.ref r1), .val (.ref r1), .val (.ref r1)] [(.ref r1)])) _
    refine st7 _ ?_
    show Steps p.tables e below (T7.setTop (mkF m 42 #[.val (.ref r1), .val (.ref r1), .val (.ref r1)] [(.long q4)])) _
    refine XS.aloadN X7.here hx rfl (hb hby d3_42) rfl rfl ?_
    show Steps p.tables e below (T7.setTop (mkF m 43 #[.val (.ref r1), .val (.ref r1), .val (.ref r1)] [(.ref r1), (.long q4)])) _
    refine st8 _ ?_
    show Steps p.tables e below (T8.setTop (mkF m 46 #[.val (.ref r1), .val (.ref r1), .val (.ref r1)] [(.long q4), (.long q4)])) _
    refine XS.lcmp X8.here hx rfl (hb hby d3_46) rfl ?_
    show Steps p.tables e below (T8.setTop (mkF m 47 #[.val (.ref r1), .val (.ref r1), .val (.ref r1)] [(.int (lcmpW q4 q4))])) _
    refine XS.ifNo X8.here hx rfl (hb hby d3_47) rfl ((if0 _ _).trans (teq P7).2) ?_
    show Steps p.tables e below (T8.setTop (mkF m 50 #[.val (.ref r1), .val (.ref r1), .val (.ref r1)] [])) _
    refine XS.aloadN X8.here hx rfl (hb hby d3_50) rfl rfl ?_
    show Steps p.tables e below (T8.setTop (mkF m 51 #[.val (.ref r1), .val (.ref r1), .val (.ref r1)] [(.ref r1)])) _
    refine st9 _ ?_
    show Steps p.tables e below (T9.setTop (mkF m 54 #[.val (.ref r1), .val (.ref r1), .val (.ref r1)] [(.long q5)])) _
    refine XS.aloadN X9.here hx rfl (hb hby d3_54) rfl rfl ?_
    show Steps p.tables e below (T9.setTop (mkF m 55 #[.val (.ref r1), .val (.ref r1), .val (.ref r1)] [(.ref r1), (.long q5)])) _
    refine st10 _ ?_
    show Steps p.tables e below (T10.setTop (mkF m 58 #[.val (.ref r1), .val (.ref r1), .val (.ref r1)] [(.long q5), (.long q5)])) _
    refine XS.lcmp X10.here hx rfl (hb hby d3_58) rfl ?_
    show Steps p.tables e below (T10.setTop (mkF m 59 #[.val (.ref r1), .val (.ref r1), .val (.ref r1)] [(.int (lcmpW q5 q5))])) _
    refine XS.ifNo X10.here hx rfl (hb hby d3_59) rfl ((if0 _ _).trans (teq P9).2) ?_
    show Steps p.tables e below (T10.setTop (mkF m 62 #[.val (.ref r1), .val (.ref r1), .val (.ref r1)] [])) _
    refine XS.iconst X10.here hx rfl (hb hby d3_62) ?_
    show Steps p.tables e below (T10.setTop (mkF m 63 #[.val (.ref r1), .val (.ref r1), .val (.ref r1)] [(.int (1 : Int32))])) _
    refine XS.goto X10.here hx rfl (pc0 := 63) (pc' := 67) rfl (hb hby d3_63) (by decide) (by decide) ?_
    show Steps p.tables e below (T10.setTop (mkF m 67 #[.val (.ref r1), .val (.ref r1), .val (.ref r1)] [(.int (1 : Int32))])) _
    exact retN X10 hx (t := .boolean) Bd.returns (by simp) (hb hby d3_67) hr
  · show own_QP (some (.int (1 : Int32))) n0 h0 _ T10.heap _
    rw [e10]
    exact ⟨rfl, N0, rfl⟩
set_option maxRecDepth 65536 in
set_option maxHeartbeats 40000000 in
theorem law_8 (l : Launch) (Z : State) (a0 : Array Value) (hw : ∀ d ∈ tables_1, d.before a0 Z = true) (ws : List Jvm.Cond) (q1 : Int64) (q2 : Int64) (q3 : Int64) (q4 : Int64) (q5 : Int64) (p6 : Int32) (h0 : Heap) (n0 : Nat) (O0 : Old Z n0 h0) (P1 : (((p6.toUInt32 >>> ((4 : Int32) &&& 31).toUInt32).toInt32) &&& (3 : Int32)) = (3 : Int32)) (P2 : (lcmpW q1 q1) = (0 : Int32)) (P3 : (lcmpW q2 q2) = (0 : Int32)) (P4 : (lcmpW q3 q3) = (0 : Int32)) (P5 : (lcmpW q4 q4) = (0 : Int32)) :
    MetFree l x (head1 (Jvm.Cond.code x code maxLocals ret :: ws) room_1) (fun a U => a = #[(.long q1), (.long q2), (.long q3), (.long q4), (.long q5), (.int p6)] ∧ Z.Warmed39 U.vm ∧ U.heap = h0) (fun _ _ _ _ _ => True) (fun _ U o U' => ∃ v L, o = .returned v ∧ own_Q1 n0 v U'.heap L ∧ FrameEnd U o U' L room_1.cells room_1.slots) := by
  refine MetFree.of_bodySF (plainFor_of_name pn_5) hisR ?_
  intro p e s m args below meth c s₁ Bd hml0 hP hK
  obtain ⟨rfl, hZ, hh⟩ := hP
  have hx := Bd.exec
  have hby := Bd.bytes
  have hml : c.maxLocals = 24 := hml0
  have hown : s.vm.findClass "com/example/bide/bide/QueueCountsEqualsPinLaw" = some m.cls := findClass_of_methodNamed Bd.named
  have hnm := (name_of_methodNamed Bd.named Bd.method).1
  have X0 : Stand p l e room_1 s m #[(.long q1), (.long q2), (.long q3), (.long q4), (.long q5), (.int p6)] below meth c s₁ [] 0 0 := Stand.of_body Bd
  have e0 : s₁.heap = h0 := by rw [← hh, Bd.state]; rfl
  have N0 := Fr.nil n0
  have pre0 : ∀ t, Steps p.tables e below (s₁.setTop (mkF m 0 #[.val (.long q1), .second, .val (.long q2), .second, .val (.long q3), .second, .val (.long q4), .second, .val (.long q5), .second, .val (.int p6), .unset, .unset, .unset, .unset, .unset, .unset, .unset, .unset, .unset, .unset, .unset, .unset, .unset] [])) t → Steps p.tables e below (s₁.setTop (entryFrame m #[(.long q1), (.long q2), (.long q3), (.long q4), (.long q5), (.int p6)] maxLocals)) t := fun t k => castTop (ef_0_JJJJJI m q1 q2 q3 q4 q5 p6) k
  obtain ⟨T1, h1, X1, e1, E1, A1, D1, -, st1⟩ := newO X0 hx hZ hown (hw _ (List.mem_of_getElem? (i := 0) rfl)) (hw _ (List.mem_of_getElem? (i := 1) rfl)) (hw _ (List.mem_of_getElem? (i := 2) rfl)) e0 (g := (mkF m 0 #[.val (.long q1), .second, .val (.long q2), .second, .val (.long q3), .second, .val (.long q4), .second, .val (.long q5), .second, .val (.int p6), .unset, .unset, .unset, .unset, .unset, .unset, .unset, .unset, .unset, .unset, .unset, .unset, .unset] [])) rfl (hb hby at_0) (by decide) (by decide)
  obtain ⟨b1, gq1⟩ : ∃ z, z = h0.size := ⟨_, rfl⟩
  rw [← gq1] at A1 D1 st1
  have g_b1 : n0 ≤ b1 := Nat.le_trans ((O0.1 ▸ O0.2.1) : n0 ≤ h0.size) (Nat.le_of_eq gq1.symm)
  have sz_b1 : h0.size ≤ b1 := Nat.le_trans (Keep.refl h0 []).1 (Nat.le_of_eq gq1.symm)
  have KK1 : Keep h0 h1 [] := (Keep.refl h0 []).ext E1
  have O1 := O0.ext E1
  have F_pending_b1 : Fld Z h1 b1 "com/example/bide/bide/QueueCounts" "pending" "J" (.long (0 : Int64)) := D1 (Or.inr (hw _ (List.mem_of_getElem? (i := 10) rfl))) (ty := .long) (by decide)
  have F_due_b1 : Fld Z h1 b1 "com/example/bide/bide/QueueCounts" "due" "J" (.long (0 : Int64)) := D1 (Or.inr (hw _ (List.mem_of_getElem? (i := 12) rfl))) (ty := .long) (by decide)
  have F_leased_b1 : Fld Z h1 b1 "com/example/bide/bide/QueueCounts" "leased" "J" (.long (0 : Int64)) := D1 (Or.inr (hw _ (List.mem_of_getElem? (i := 14) rfl))) (ty := .long) (by decide)
  have F_dead_b1 : Fld Z h1 b1 "com/example/bide/bide/QueueCounts" "dead" "J" (.long (0 : Int64)) := D1 (Or.inr (hw _ (List.mem_of_getElem? (i := 16) rfl))) (ty := .long) (by decide)
  obtain ⟨_, _, ⟨T2, L2, k2, n2⟩, -, X2, ⟨Lc2, hQ2, l2, y2, z2⟩, st2⟩ := X1.specialBack hx (y := (⟨"com/example/bide/bide/QueueCounts", "<init>", "(JJJJ)V"⟩ : MethodName)) rfl hown (mvT hZ (hw _ (List.mem_of_getElem? (i := 3) rfl))) (mvT hZ (hw _ (List.mem_of_getElem? (i := 4) rfl))) (mvT hZ (hw _ (List.mem_of_getElem? (i := 5) rfl))) (by decide) (backOf (W := 1) (rm1_0 l Z a0 hw b1 q1 q2 q3 q4 h1 n0 O1 A1 F_pending_b1 F_due_b1 F_leased_b1 F_dead_b1 g_b1) hZ (hw _ (List.mem_of_getElem? (i := 5) rfl)) (hw _ (List.mem_of_getElem? (i := 2) rfl)) (by decide) (by decide)) (g := (mkF m 10 #[.val (.long q1), .second, .val (.long q2), .second, .val (.long q3), .second, .val (.long q4), .second, .val (.long q5), .second, .val (.int p6), .unset, .unset, .unset, .unset, .unset, .unset, .unset, .unset, .unset, .unset, .unset, .unset, .unset] [(.long q4), (.long q3), (.long q2), (.long q1), (.ref b1), (.ref b1)])) rfl (by rw [hml]; rfl) (Steps.refl _) (a := b1) (argsL := [(.long q1), (.long q2), (.long q3), (.long q4)]) (rest := [(.ref b1)]) (lenOf pd_2 rfl) rfl (by show 2 * 0 + _ ≤ _; exact Nat.le_of_eq rfl) (hb hby at_10) (fun _ _ => ⟨rfl, e1, (by decide : 1 + 0 ≤ _), (by decide : 4 + 0 ≤ _)⟩)
  dsimp only [Pt.U, Pt.locs, Pt.cells, Pt.slots] at X2 l2 y2 z2 st2 hQ2
  subst l2 y2 z2
  obtain ⟨rfl, N2q, K2, f2_0, f2_1, f2_2, f2_3⟩ := hQ2
  have KK2 : Keep h0 T2.heap [] := KK1.trans K2 (allS (Or.inr sz_b1) all0)
  have O2 := O1.keep K2 (allS g_b1 all0)
  have N2 := Fr.app N0 N2q
  have dm3 : ∀ target, Steps p.tables e below (T2.setTop (mkF m 37 #[.val (.long q1), .second, .val (.long q2), .second, .val (.long q3), .second, .val (.long q4), .second, .val (.long q5), .second, .val (.int p6), .val (.ref b1), .val (.int (p6 &&& (15 : Int32))), .unset, .unset, .unset, .unset, .unset, .unset, .unset, .unset, .unset, .unset, .unset] [(.long (own_b p6 (1 : Int32) q1 q5))])) target → Steps p.tables e below (T2.setTop (mkF m 26 #[.val (.long q1), .second, .val (.long q2), .second, .val (.long q3), .second, .val (.long q4), .second, .val (.long q5), .second, .val (.int p6), .val (.ref b1), .val (.int (p6 &&& (15 : Int32))), .unset, .unset, .unset, .unset, .unset, .unset, .unset, .unset, .unset, .unset, .unset] [(.int ((p6 &&& (15 : Int32)) &&& (1 : Int32)))])) target := by
    intro target kt
    by_cases hdb : ((p6 &&& (15 : Int32)) &&& (1 : Int32)) = (0 : Int32)
    · rw [own_b_pos hdb] at kt
      show Steps p.tables e below (T2.setTop (mkF m 26 #[.val (.long q1), .second, .val (.long q2), .second, .val (.long q3), .second, .val (.long q4), .second, .val (.long q5), .second, .val (.int p6), .val (.ref b1), .val (.int (p6 &&& (15 : Int32))), .unset, .unset, .unset, .unset, .unset, .unset, .unset, .unset, .unset, .unset, .unset] [(.int ((p6 &&& (15 : Int32)) &&& (1 : Int32)))])) _
      refine XS.ifYes X2.here hx rfl (pc0 := 26) (pc' := 36) rfl (hb hby at_26) rfl ((if0 _ _).trans (teq hdb).1) (by decide) (by decide) ?_
      show Steps p.tables e below (T2.setTop (mkF m 36 #[.val (.long q1), .second, .val (.long q2), .second, .val (.long q3), .second, .val (.long q4), .second, .val (.long q5), .second, .val (.int p6), .val (.ref b1), .val (.int (p6 &&& (15 : Int32))), .unset, .unset, .unset, .unset, .unset, .unset, .unset, .unset, .unset, .unset, .unset] [])) _
      refine XS.lloadN X2.here hx rfl (hb hby at_36) rfl ?_
      exact kt
    · rw [own_b_neg hdb] at kt
      show Steps p.tables e below (T2.setTop (mkF m 26 #[.val (.long q1), .second, .val (.long q2), .second, .val (.long q3), .second, .val (.long q4), .second, .val (.long q5), .second, .val (.int p6), .val (.ref b1), .val (.int (p6 &&& (15 : Int32))), .unset, .unset, .unset, .unset, .unset, .unset, .unset, .unset, .unset, .unset, .unset] [(.int ((p6 &&& (15 : Int32)) &&& (1 : Int32)))])) _
      refine XS.ifNo X2.here hx rfl (hb hby at_26) rfl ((if0 _ _).trans (feq hdb).1) ?_
      show Steps p.tables e below (T2.setTop (mkF m 29 #[.val (.long q1), .second, .val (.long q2), .second, .val (.long q3), .second, .val (.long q4), .second, .val (.long q5), .second, .val (.int p6), .val (.ref b1), .val (.int (p6 &&& (15 : Int32))), .unset, .unset, .unset, .unset, .unset, .unset, .unset, .unset, .unset, .unset, .unset] [])) _
      refine XS.lloadN X2.here hx rfl (hb hby at_29) rfl ?_
      show Steps p.tables e below (T2.setTop (mkF m 30 #[.val (.long q1), .second, .val (.long q2), .second, .val (.long q3), .second, .val (.long q4), .second, .val (.long q5), .second, .val (.int p6), .val (.ref b1), .val (.int (p6 &&& (15 : Int32))), .unset, .unset, .unset, .unset, .unset, .unset, .unset, .unset, .unset, .unset, .unset] [(.long q1)])) _
      refine XS.lload X2.here hx rfl (hb hby at_30) rfl ?_
      show Steps p.tables e below (T2.setTop (mkF m 32 #[.val (.long q1), .second, .val (.long q2), .second, .val (.long q3), .second, .val (.long q4), .second, .val (.long q5), .second, .val (.int p6), .val (.ref b1), .val (.int (p6 &&& (15 : Int32))), .unset, .unset, .unset, .unset, .unset, .unset, .unset, .unset, .unset, .unset, .unset] [(.long q5), (.long q1)])) _
      refine XS.ladd X2.here hx rfl (hb hby at_32) rfl ?_
      show Steps p.tables e below (T2.setTop (mkF m 33 #[.val (.long q1), .second, .val (.long q2), .second, .val (.long q3), .second, .val (.long q4), .second, .val (.long q5), .second, .val (.int p6), .val (.ref b1), .val (.int (p6 &&& (15 : Int32))), .unset, .unset, .unset, .unset, .unset, .unset, .unset, .unset, .unset, .unset, .unset] [(.long (q1 + q5))])) _
      refine XS.goto X2.here hx rfl (pc0 := 33) (pc' := 37) rfl (hb hby at_33) (by decide) (by decide) ?_
      exact kt
  have dm4 : ∀ target, Steps p.tables e below (T2.setTop (mkF m 54 #[.val (.long q1), .second, .val (.long q2), .second, .val (.long q3), .second, .val (.long q4), .second, .val (.long q5), .second, .val (.int p6), .val (.ref b1), .val (.int (p6 &&& (15 : Int32))), .val (.long (own_b p6 (1 : Int32) q1 q5)), .second, .unset, .unset, .unset, .unset, .unset, .unset, .unset, .unset, .unset] [(.long (own_b p6 (2 : Int32) q2 q5))])) target → Steps p.tables e below (T2.setTop (mkF m 43 #[.val (.long q1), .second, .val (.long q2), .second, .val (.long q3), .second, .val (.long q4), .second, .val (.long q5), .second, .val (.int p6), .val (.ref b1), .val (.int (p6 &&& (15 : Int32))), .val (.long (own_b p6 (1 : Int32) q1 q5)), .second, .unset, .unset, .unset, .unset, .unset, .unset, .unset, .unset, .unset] [(.int ((p6 &&& (15 : Int32)) &&& (2 : Int32)))])) target := by
    intro target kt
    by_cases hdb : ((p6 &&& (15 : Int32)) &&& (2 : Int32)) = (0 : Int32)
    · rw [own_b_pos hdb] at kt
      show Steps p.tables e below (T2.setTop (mkF m 43 #[.val (.long q1), .second, .val (.long q2), .second, .val (.long q3), .second, .val (.long q4), .second, .val (.long q5), .second, .val (.int p6), .val (.ref b1), .val (.int (p6 &&& (15 : Int32))), .val (.long (own_b p6 (1 : Int32) q1 q5)), .second, .unset, .unset, .unset, .unset, .unset, .unset, .unset, .unset, .unset] [(.int ((p6 &&& (15 : Int32)) &&& (2 : Int32)))])) _
      refine XS.ifYes X2.here hx rfl (pc0 := 43) (pc' := 53) rfl (hb hby at_43) rfl ((if0 _ _).trans (teq hdb).1) (by decide) (by decide) ?_
      show Steps p.tables e below (T2.setTop (mkF m 53 #[.val (.long q1), .second, .val (.long q2), .second, .val (.long q3), .second, .val (.long q4), .second, .val (.long q5), .second, .val (.int p6), .val (.ref b1), .val (.int (p6 &&& (15 : Int32))), .val (.long (own_b p6 (1 : Int32) q1 q5)), .second, .unset, .unset, .unset, .unset, .unset, .unset, .unset, .unset, .unset] [])) _
      refine XS.lloadN X2.here hx rfl (hb hby at_53) rfl ?_
      exact kt
    · rw [own_b_neg hdb] at kt
      show Steps p.tables e below (T2.setTop (mkF m 43 #[.val (.long q1), .second, .val (.long q2), .second, .val (.long q3), .second, .val (.long q4), .second, .val (.long q5), .second, .val (.int p6), .val (.ref b1), .val (.int (p6 &&& (15 : Int32))), .val (.long (own_b p6 (1 : Int32) q1 q5)), .second, .unset, .unset, .unset, .unset, .unset, .unset, .unset, .unset, .unset] [(.int ((p6 &&& (15 : Int32)) &&& (2 : Int32)))])) _
      refine XS.ifNo X2.here hx rfl (hb hby at_43) rfl ((if0 _ _).trans (feq hdb).1) ?_
      show Steps p.tables e below (T2.setTop (mkF m 46 #[.val (.long q1), .second, .val (.long q2), .second, .val (.long q3), .second, .val (.long q4), .second, .val (.long q5), .second, .val (.int p6), .val (.ref b1), .val (.int (p6 &&& (15 : Int32))), .val (.long (own_b p6 (1 : Int32) q1 q5)), .second, .unset, .unset, .unset, .unset, .unset, .unset, .unset, .unset, .unset] [])) _
      refine XS.lloadN X2.here hx rfl (hb hby at_46) rfl ?_
      show Steps p.tables e below (T2.setTop (mkF m 47 #[.val (.long q1), .second, .val (.long q2), .second, .val (.long q3), .second, .val (.long q4), .second, .val (.long q5), .second, .val (.int p6), .val (.ref b1), .val (.int (p6 &&& (15 : Int32))), .val (.long (own_b p6 (1 : Int32) q1 q5)), .second, .unset, .unset, .unset, .unset, .unset, .unset, .unset, .unset, .unset] [(.long q2)])) _
      refine XS.lload X2.here hx rfl (hb hby at_47) rfl ?_
      show Steps p.tables e below (T2.setTop (mkF m 49 #[.val (.long q1), .second, .val (.long q2), .second, .val (.long q3), .second, .val (.long q4), .second, .val (.long q5), .second, .val (.int p6), .val (.ref b1), .val (.int (p6 &&& (15 : Int32))), .val (.long (own_b p6 (1 : Int32) q1 q5)), .second, .unset, .unset, .unset, .unset, .unset, .unset, .unset, .unset, .unset] [(.long q5), (.long q2)])) _
      refine XS.ladd X2.here hx rfl (hb hby at_49) rfl ?_
      show Steps p.tables e below (T2.setTop (mkF m 50 #[.val (.long q1), .second, .val (.long q2), .second, .val (.long q3), .second, .val (.long q4), .second, .val (.long q5), .second, .val (.int p6), .val (.ref b1), .val (.int (p6 &&& (15 : Int32))), .val (.long (own_b p6 (1 : Int32) q1 q5)), .second, .unset, .unset, .unset, .unset, .unset, .unset, .unset, .unset, .unset] [(.long (q2 + q5))])) _
      refine XS.goto X2.here hx rfl (pc0 := 50) (pc' := 54) rfl (hb hby at_50) (by decide) (by decide) ?_
      exact kt
  have dm5 : ∀ target, Steps p.tables e below (T2.setTop (mkF m 73 #[.val (.long q1), .second, .val (.long q2), .second, .val (.long q3), .second, .val (.long q4), .second, .val (.long q5), .second, .val (.int p6), .val (.ref b1), .val (.int (p6 &&& (15 : Int32))), .val (.long (own_b p6 (1 : Int32) q1 q5)), .second, .val (.long (own_b p6 (2 : Int32) q2 q5)), .second, .unset, .unset, .unset, .unset, .unset, .unset, .unset] [(.long (own_b p6 (4 : Int32) q3 q5))])) target → Steps p.tables e below (T2.setTop (mkF m 60 #[.val (.long q1), .second, .val (.long q2), .second, .val (.long q3), .second, .val (.long q4), .second, .val (.long q5), .second, .val (.int p6), .val (.ref b1), .val (.int (p6 &&& (15 : Int32))), .val (.long (own_b p6 (1 : Int32) q1 q5)), .second, .val (.long (own_b p6 (2 : Int32) q2 q5)), .second, .unset, .unset, .unset, .unset, .unset, .unset, .unset] [(.int ((p6 &&& (15 : Int32)) &&& (4 : Int32)))])) target := by
    intro target kt
    by_cases hdb : ((p6 &&& (15 : Int32)) &&& (4 : Int32)) = (0 : Int32)
    · rw [own_b_pos hdb] at kt
      show Steps p.tables e below (T2.setTop (mkF m 60 #[.val (.long q1), .second, .val (.long q2), .second, .val (.long q3), .second, .val (.long q4), .second, .val (.long q5), .second, .val (.int p6), .val (.ref b1), .val (.int (p6 &&& (15 : Int32))), .val (.long (own_b p6 (1 : Int32) q1 q5)), .second, .val (.long (own_b p6 (2 : Int32) q2 q5)), .second, .unset, .unset, .unset, .unset, .unset, .unset, .unset] [(.int ((p6 &&& (15 : Int32)) &&& (4 : Int32)))])) _
      refine XS.ifYes X2.here hx rfl (pc0 := 60) (pc' := 71) rfl (hb hby at_60) rfl ((if0 _ _).trans (teq hdb).1) (by decide) (by decide) ?_
      show Steps p.tables e below (T2.setTop (mkF m 71 #[.val (.long q1), .second, .val (.long q2), .second, .val (.long q3), .second, .val (.long q4), .second, .val (.long q5), .second, .val (.int p6), .val (.ref b1), .val (.int (p6 &&& (15 : Int32))), .val (.long (own_b p6 (1 : Int32) q1 q5)), .second, .val (.long (own_b p6 (2 : Int32) q2 q5)), .second, .unset, .unset, .unset, .unset, .unset, .unset, .unset] [])) _
      refine XS.lload X2.here hx rfl (hb hby at_71) rfl ?_
      exact kt
    · rw [own_b_neg hdb] at kt
      show Steps p.tables e below (T2.setTop (mkF m 60 #[.val (.long q1), .second, .val (.long q2), .second, .val (.long q3), .second, .val (.long q4), .second, .val (.long q5), .second, .val (.int p6), .val (.ref b1), .val (.int (p6 &&& (15 : Int32))), .val (.long (own_b p6 (1 : Int32) q1 q5)), .second, .val (.long (own_b p6 (2 : Int32) q2 q5)), .second, .unset, .unset, .unset, .unset, .unset, .unset, .unset] [(.int ((p6 &&& (15 : Int32)) &&& (4 : Int32)))])) _
      refine XS.ifNo X2.here hx rfl (hb hby at_60) rfl ((if0 _ _).trans (feq hdb).1) ?_
      show Steps p.tables e below (T2.setTop (mkF m 63 #[.val (.long q1), .second, .val (.long q2), .second, .val (.long q3), .second, .val (.long q4), .second, .val (.long q5), .second, .val (.int p6), .val (.ref b1), .val (.int (p6 &&& (15 : Int32))), .val (.long (own_b p6 (1 : Int32) q1 q5)), .second, .val (.long (own_b p6 (2 : Int32) q2 q5)), .second, .unset, .unset, .unset, .unset, .unset, .unset, .unset] [])) _
      refine XS.lload X2.here hx rfl (hb hby at_63) rfl ?_
      show Steps p.tables e below (T2.setTop (mkF m 65 #[.val (.long q1), .second, .val (.long q2), .second, .val (.long q3), .second, .val (.long q4), .second, .val (.long q5), .second, .val (.int p6), .val (.ref b1), .val (.int (p6 &&& (15 : Int32))), .val (.long (own_b p6 (1 : Int32) q1 q5)), .second, .val (.long (own_b p6 (2 : Int32) q2 q5)), .second, .unset, .unset, .unset, .unset, .unset, .unset, .unset] [(.long q3)])) _
      refine XS.lload X2.here hx rfl (hb hby at_65) rfl ?_
      show Steps p.tables e below (T2.setTop (mkF m 67 #[.val (.long q1), .second, .val (.long q2), .second, .val (.long q3), .second, .val (.long q4), .second, .val (.long q5), .second, .val (.int p6), .val (.ref b1), .val (.int (p6 &&& (15 : Int32))), .val (.long (own_b p6 (1 : Int32) q1 q5)), .second, .val (.long (own_b p6 (2 : Int32) q2 q5)), .second, .unset, .unset, .unset, .unset, .unset, .unset, .unset] [(.long q5), (.long q3)])) _
      refine XS.ladd X2.here hx rfl (hb hby at_67) rfl ?_
      show Steps p.tables e below (T2.setTop (mkF m 68 #[.val (.long q1), .second, .val (.long q2), .second, .val (.long q3), .second, .val (.long q4), .second, .val (.long q5), .second, .val (.int p6), .val (.ref b1), .val (.int (p6 &&& (15 : Int32))), .val (.long (own_b p6 (1 : Int32) q1 q5)), .second, .val (.long (own_b p6 (2 : Int32) q2 q5)), .second, .unset, .unset, .unset, .unset, .unset, .unset, .unset] [(.long (q3 + q5))])) _
      refine XS.goto X2.here hx rfl (pc0 := 68) (pc' := 73) rfl (hb hby at_68) (by decide) (by decide) ?_
      exact kt
  have dm6 : ∀ target, Steps p.tables e below (T2.setTop (mkF m 93 #[.val (.long q1), .second, .val (.long q2), .second, .val (.long q3), .second, .val (.long q4), .second, .val (.long q5), .second, .val (.int p6), .val (.ref b1), .val (.int (p6 &&& (15 : Int32))), .val (.long (own_b p6 (1 : Int32) q1 q5)), .second, .val (.long (own_b p6 (2 : Int32) q2 q5)), .second, .val (.long (own_b p6 (4 : Int32) q3 q5)), .second, .unset, .unset, .unset, .unset, .unset] [(.long (own_b p6 (8 : Int32) q4 q5))])) target → Steps p.tables e below (T2.setTop (mkF m 80 #[.val (.long q1), .second, .val (.long q2), .second, .val (.long q3), .second, .val (.long q4), .second, .val (.long q5), .second, .val (.int p6), .val (.ref b1), .val (.int (p6 &&& (15 : Int32))), .val (.long (own_b p6 (1 : Int32) q1 q5)), .second, .val (.long (own_b p6 (2 : Int32) q2 q5)), .second, .val (.long (own_b p6 (4 : Int32) q3 q5)), .second, .unset, .unset, .unset, .unset, .unset] [(.int ((p6 &&& (15 : Int32)) &&& (8 : Int32)))])) target := by
    intro target kt
    by_cases hdb : ((p6 &&& (15 : Int32)) &&& (8 : Int32)) = (0 : Int32)
    · rw [own_b_pos hdb] at kt
      show Steps p.tables e below (T2.setTop (mkF m 80 #[.val (.long q1), .second, .val (.long q2), .second, .val (.long q3), .second, .val (.long q4), .second, .val (.long q5), .second, .val (.int p6), .val (.ref b1), .val (.int (p6 &&& (15 : Int32))), .val (.long (own_b p6 (1 : Int32) q1 q5)), .second, .val (.long (own_b p6 (2 : Int32) q2 q5)), .second, .val (.long (own_b p6 (4 : Int32) q3 q5)), .second, .unset, .unset, .unset, .unset, .unset] [(.int ((p6 &&& (15 : Int32)) &&& (8 : Int32)))])) _
      refine XS.ifYes X2.here hx rfl (pc0 := 80) (pc' := 91) rfl (hb hby at_80) rfl ((if0 _ _).trans (teq hdb).1) (by decide) (by decide) ?_
      show Steps p.tables e below (T2.setTop (mkF m 91 #[.val (.long q1), .second, .val (.long q2), .second, .val (.long q3), .second, .val (.long q4), .second, .val (.long q5), .second, .val (.int p6), .val (.ref b1), .val (.int (p6 &&& (15 : Int32))), .val (.long (own_b p6 (1 : Int32) q1 q5)), .second, .val (.long (own_b p6 (2 : Int32) q2 q5)), .second, .val (.long (own_b p6 (4 : Int32) q3 q5)), .second, .unset, .unset, .unset, .unset, .unset] [])) _
      refine XS.lload X2.here hx rfl (hb hby at_91) rfl ?_
      exact kt
    · rw [own_b_neg hdb] at kt
      show Steps p.tables e below (T2.setTop (mkF m 80 #[.val (.long q1), .second, .val (.long q2), .second, .val (.long q3), .second, .val (.long q4), .second, .val (.long q5), .second, .val (.int p6), .val (.ref b1), .val (.int (p6 &&& (15 : Int32))), .val (.long (own_b p6 (1 : Int32) q1 q5)), .second, .val (.long (own_b p6 (2 : Int32) q2 q5)), .second, .val (.long (own_b p6 (4 : Int32) q3 q5)), .second, .unset, .unset, .unset, .unset, .unset] [(.int ((p6 &&& (15 : Int32)) &&& (8 : Int32)))])) _
      refine XS.ifNo X2.here hx rfl (hb hby at_80) rfl ((if0 _ _).trans (feq hdb).1) ?_
      show Steps p.tables e below (T2.setTop (mkF m 83 #[.val (.long q1), .second, .val (.long q2), .second, .val (.long q3), .second, .val (.long q4), .second, .val (.long q5), .second, .val (.int p6), .val (.ref b1), .val (.int (p6 &&& (15 : Int32))), .val (.long (own_b p6 (1 : Int32) q1 q5)), .second, .val (.long (own_b p6 (2 : Int32) q2 q5)), .second, .val (.long (own_b p6 (4 : Int32) q3 q5)), .second, .unset, .unset, .unset, .unset, .unset] [])) _
      refine XS.lload X2.here hx rfl (hb hby at_83) rfl ?_
      show Steps p.tables e below (T2.setTop (mkF m 85 #[.val (.long q1), .second, .val (.long q2), .second, .val (.long q3), .second, .val (.long q4), .second, .val (.long q5), .second, .val (.int p6), .val (.ref b1), .val (.int (p6 &&& (15 : Int32))), .val (.long (own_b p6 (1 : Int32) q1 q5)), .second, .val (.long (own_b p6 (2 : Int32) q2 q5)), .second, .val (.long (own_b p6 (4 : Int32) q3 q5)), .second, .unset, .unset, .unset, .unset, .unset] [(.long q4)])) _
      refine XS.lload X2.here hx rfl (hb hby at_85) rfl ?_
      show Steps p.tables e below (T2.setTop (mkF m 87 #[.val (.long q1), .second, .val (.long q2), .second, .val (.long q3), .second, .val (.long q4), .second, .val (.long q5), .second, .val (.int p6), .val (.ref b1), .val (.int (p6 &&& (15 : Int32))), .val (.long (own_b p6 (1 : Int32) q1 q5)), .second, .val (.long (own_b p6 (2 : Int32) q2 q5)), .second, .val (.long (own_b p6 (4 : Int32) q3 q5)), .second, .unset, .unset, .unset, .unset, .unset] [(.long q5), (.long q4)])) _
      refine XS.ladd X2.here hx rfl (hb hby at_87) rfl ?_
      show Steps p.tables e below (T2.setTop (mkF m 88 #[.val (.long q1), .second, .val (.long q2), .second, .val (.long q3), .second, .val (.long q4), .second, .val (.long q5), .second, .val (.int p6), .val (.ref b1), .val (.int (p6 &&& (15 : Int32))), .val (.long (own_b p6 (1 : Int32) q1 q5)), .second, .val (.long (own_b p6 (2 : Int32) q2 q5)), .second, .val (.long (own_b p6 (4 : Int32) q3 q5)), .second, .unset, .unset, .unset, .unset, .unset] [(.long (q4 + q5))])) _
      refine XS.goto X2.here hx rfl (pc0 := 88) (pc' := 93) rfl (hb hby at_88) (by decide) (by decide) ?_
      exact kt
  obtain ⟨T7, h7, X7, e7, E7, A7, D7, -, st7⟩ := newO X2 hx hZ hown (hw _ (List.mem_of_getElem? (i := 0) rfl)) (hw _ (List.mem_of_getElem? (i := 1) rfl)) (hw _ (List.mem_of_getElem? (i := 2) rfl)) rfl (g := (mkF m 95 #[.val (.long q1), .second, .val (.long q2), .second, .val (.long q3), .second, .val (.long q4), .second, .val (.long q5), .second, .val (.int p6), .val (.ref b1), .val (.int (p6 &&& (15 : Int32))), .val (.long (own_b p6 (1 : Int32) q1 q5)), .second, .val (.long (own_b p6 (2 : Int32) q2 q5)), .second, .val (.long (own_b p6 (4 : Int32) q3 q5)), .second, .val (.long (own_b p6 (8 : Int32) q4 q5)), .second, .unset, .unset, .unset] [])) rfl (hb hby at_95) (by decide) (by decide)
  obtain ⟨b7, gq7⟩ : ∃ z, z = T2.heap.size := ⟨_, rfl⟩
  rw [← gq7] at A7 D7 st7
  have g_b7 : n0 ≤ b7 := Nat.le_trans ((O2.1 ▸ O2.2.1) : n0 ≤ T2.heap.size) (Nat.le_of_eq gq7.symm)
  have sz_b7 : h0.size ≤ b7 := Nat.le_trans KK2.1 (Nat.le_of_eq gq7.symm)
  have KK7 : Keep h0 h7 [] := KK2.ext E7
  have O7 := O2.ext E7
  have F_pending_b7 : Fld Z h7 b7 "com/example/bide/bide/QueueCounts" "pending" "J" (.long (0 : Int64)) := D7 (Or.inr (hw _ (List.mem_of_getElem? (i := 10) rfl))) (ty := .long) (by decide)
  have F_due_b7 : Fld Z h7 b7 "com/example/bide/bide/QueueCounts" "due" "J" (.long (0 : Int64)) := D7 (Or.inr (hw _ (List.mem_of_getElem? (i := 12) rfl))) (ty := .long) (by decide)
  have F_leased_b7 : Fld Z h7 b7 "com/example/bide/bide/QueueCounts" "leased" "J" (.long (0 : Int64)) := D7 (Or.inr (hw _ (List.mem_of_getElem? (i := 14) rfl))) (ty := .long) (by decide)
  have F_dead_b7 : Fld Z h7 b7 "com/example/bide/bide/QueueCounts" "dead" "J" (.long (0 : Int64)) := D7 (Or.inr (hw _ (List.mem_of_getElem? (i := 16) rfl))) (ty := .long) (by decide)
  obtain ⟨_, _, ⟨T8, L8, k8, n8⟩, -, X8, ⟨Lc8, hQ8, l8, y8, z8⟩, st8⟩ := X7.specialBack hx (y := (⟨"com/example/bide/bide/QueueCounts", "<init>", "(JJJJ)V"⟩ : MethodName)) rfl hown (mvT hZ (hw _ (List.mem_of_getElem? (i := 3) rfl))) (mvT hZ (hw _ (List.mem_of_getElem? (i := 4) rfl))) (mvT hZ (hw _ (List.mem_of_getElem? (i := 5) rfl))) (by decide) (backOf (W := 1) (rm1_0 l Z a0 hw b7 (own_b p6 (1 : Int32) q1 q5) (own_b p6 (2 : Int32) q2 q5) (own_b p6 (4 : Int32) q3 q5) (own_b p6 (8 : Int32) q4 q5) h7 n0 O7 A7 F_pending_b7 F_due_b7 F_leased_b7 F_dead_b7 g_b7) hZ (hw _ (List.mem_of_getElem? (i := 5) rfl)) (hw _ (List.mem_of_getElem? (i := 2) rfl)) (by decide) (by decide)) (g := (mkF m 107 #[.val (.long q1), .second, .val (.long q2), .second, .val (.long q3), .second, .val (.long q4), .second, .val (.long q5), .second, .val (.int p6), .val (.ref b1), .val (.int (p6 &&& (15 : Int32))), .val (.long (own_b p6 (1 : Int32) q1 q5)), .second, .val (.long (own_b p6 (2 : Int32) q2 q5)), .second, .val (.long (own_b p6 (4 : Int32) q3 q5)), .second, .val (.long (own_b p6 (8 : Int32) q4 q5)), .second, .unset, .unset, .unset] [(.long (own_b p6 (8 : Int32) q4 q5)), (.long (own_b p6 (4 : Int32) q3 q5)), (.long (own_b p6 (2 : Int32) q2 q5)), (.long (own_b p6 (1 : Int32) q1 q5)), (.ref b7), (.ref b7)])) rfl (by rw [hml]; rfl) (Steps.refl _) (a := b7) (argsL := [(.long (own_b p6 (1 : Int32) q1 q5)), (.long (own_b p6 (2 : Int32) q2 q5)), (.long (own_b p6 (4 : Int32) q3 q5)), (.long (own_b p6 (8 : Int32) q4 q5))]) (rest := [(.ref b7)]) (lenOf pd_2 rfl) rfl (by show 2 * 0 + _ ≤ _; exact Nat.le_of_eq rfl) (hb hby at_107) (fun _ _ => ⟨rfl, e7, (by decide : 2 + 0 ≤ _), (by decide : 8 + 0 ≤ _)⟩)
  dsimp only [Pt.U, Pt.locs, Pt.cells, Pt.slots] at X8 l8 y8 z8 st8 hQ8
  subst l8 y8 z8
  obtain ⟨rfl, N8q, K8, f8_0, f8_1, f8_2, f8_3⟩ := hQ8
  have KK8 : Keep h0 T8.heap [] := KK7.trans K8 (allS (Or.inr sz_b7) all0)
  have O8 := O7.keep K8 (allS g_b7 all0)
  have N8 := Fr.app N2 N8q
  have nz9 : b1 ≠ b7 := (Nat.ne_of_lt (Nat.lt_of_lt_of_le (A1.keep K2).lt (Nat.le_of_eq gq7.symm)))
  obtain ⟨cq10, kq10, q10a, q10b, q10c⟩ := isOf hZ rfl (((A1.keep K2).ext E7).keep K8)
  obtain ⟨_, _, ⟨T10, L10, k10, n10⟩, -, X10, ⟨Lc10, hQ10, l10, y10, z10⟩, st10⟩ := X8.virtualBack hx (y := (⟨"com/example/bide/bide/QueueCounts", "equals", "(Ljava/lang/Object;)Z"⟩ : MethodName)) (z := (⟨"com/example/bide/bide/QueueCounts", "equals", "(Ljava/lang/Object;)Z"⟩ : MethodName)) hown (mvT hZ (hw _ (List.mem_of_getElem? (i := 17) rfl))) (mvT hZ (hw _ (List.mem_of_getElem? (i := 18) rfl))) (notFace_of_selects (args := #[]) (mvT hZ (hw _ (List.mem_of_getElem? (i := 20) rfl)))) (mvT hZ (hw _ (List.mem_of_getElem? (i := 20) rfl))) (mvT hZ (hw _ (List.mem_of_getElem? (i := 19) rfl))) (by decide) (backOf (W := 0) (rm3_7 l Z a0 hw b1 q1 q2 q3 q4 T8.heap n0 O8 (((A1.keep K2).ext E7).keep K8) ((f2_0.ext E7).keep K8 (ninS nz9 nin0)) P2 ((f2_1.ext E7).keep K8 (ninS nz9 nin0)) P3 ((f2_2.ext E7).keep K8 (ninS nz9 nin0)) P4 ((f2_3.ext E7).keep K8 (ninS nz9 nin0)) P5) hZ (hw _ (List.mem_of_getElem? (i := 21) rfl)) (hw _ (List.mem_of_getElem? (i := 2) rfl)) (by decide) (by decide)) q10a q10c (g := (mkF m 175 #[.val (.long q1), .second, .val (.long q2), .second, .val (.long q3), .second, .val (.long q4), .second, .val (.long q5), .second, .val (.int p6), .val (.ref b1), .val (.int (p6 &&& (15 : Int32))), .val (.long (own_b p6 (1 : Int32) q1 q5)), .second, .val (.long (own_b p6 (2 : Int32) q2 q5)), .second, .val (.long (own_b p6 (4 : Int32) q3 q5)), .second, .val (.long (own_b p6 (8 : Int32) q4 q5)), .second, .val (.ref b7), .val (.int (3 : Int32)), .unset] [(.ref b1), (.ref b1)])) rfl (by rw [hml]; rfl) (Steps.refl _) (argsL := [(.ref b1)]) (rest := []) (lenOf pd_4 rfl) rfl (by show 2 * 0 + _ ≤ _; exact Nat.le_of_eq rfl) (hb hby at_175) (fun _ _ => ⟨rfl, rfl, (by decide : 2 + 0 ≤ _), (by decide : 8 + 0 ≤ _)⟩)
  dsimp only [Pt.U, Pt.locs, Pt.cells, Pt.slots] at X10 l10 y10 z10 st10 hQ10
  subst l10 y10 z10
  obtain ⟨rfl, N10q, e10⟩ := hQ10
  have N10 := Fr.app N8 N10q
  obtain ⟨fs, hr, hrun, hended, hW, hsame⟩ := X10.leave (v := some (.int (1 : Int32))) (fun h => by rw [Bd.returns] at h; cases h)
  refine ⟨_, _, pre0 _ ?_, hrun, hended, _, _, rfl, ?_, ⟨_, rfl⟩, hW, hsame.mono (by decide) (by decide)⟩
  · show Steps p.tables e below (s₁.setTop (mkF m 0 #[.val (.long q1), .second, .val (.long q2), .second, .val (.long q3), .second, .val (.long q4), .second, .val (.long q5), .second, .val (.int p6), .unset, .unset, .unset, .unset, .unset, .unset, .unset, .unset, .unset, .unset, .unset, .unset, .unset] [])) _
    refine st1 _ ?_
    show Steps p.tables e below (T1.setTop (mkF m 3 #[.val (.long q1), .second, .val (.long q2), .second, .val (.long q3), .second, .val (.long q4), .second, .val (.long q5), .second, .val (.int p6), .unset, .unset, .unset, .unset, .unset, .unset, .unset, .unset, .unset, .unset, .unset, .unset, .unset] [(.ref b1)])) _
    refine XS.dup X1.here hx rfl (hb hby at_3) rfl rfl ?_
    show Steps p.tables e below (T1.setTop (mkF m 4 #[.val (.long q1), .second, .val (.long q2), .second, .val (.long q3), .second, .val (.long q4), .second, .val (.long q5), .second, .val (.int p6), .unset, .unset, .unset, .unset, .unset, .unset, .unset, .unset, .unset, .unset, .unset, .unset, .unset] [(.ref b1), (.ref b1)])) _
    refine XS.lloadN X1.here hx rfl (hb hby at_4) rfl ?_
    show Steps p.tables e below (T1.setTop (mkF m 5 #[.val (.long q1), .second, .val (.long q2), .second, .val (.long q3), .second, .val (.long q4), .second, .val (.long q5), .second, .val (.int p6), .unset, .unset, .unset, .unset, .unset, .unset, .unset, .unset, .unset, .unset, .unset, .unset, .unset] [(.long q1), (.ref b1), (.ref b1)])) _
    refine XS.lloadN X1.here hx rfl (hb hby at_5) rfl ?_
    show Steps p.tables e below (T1.setTop (mkF m 6 #[.val (.long q1), .second, .val (.long q2), .second, .val (.long q3), .second, .val (.long q4), .second, .val (.long q5), .second, .val (.int p6), .unset, .unset, .unset, .unset, .unset, .unset, .unset, .unset, .unset, .unset, .unset, .unset, .unset] [(.long q2), (.long q1), (.ref b1), (.ref b1)])) _
    refine XS.lload X1.here hx rfl (hb hby at_6) rfl ?_
    show Steps p.tables e below (T1.setTop (mkF m 8 #[.val (.long q1), .second, .val (.long q2), .second, .val (.long q3), .second, .val (.long q4), .second, .val (.long q5), .second, .val (.int p6), .unset, .unset, .unset, .unset, .unset, .unset, .unset, .unset, .unset, .unset, .unset, .unset, .unset] [(.long q3), (.long q2), (.long q1), (.ref b1), (.ref b1)])) _
    refine XS.lload X1.here hx rfl (hb hby at_8) rfl ?_
    show Steps p.tables e below (T1.setTop (mkF m 10 #[.val (.long q1), .second, .val (.long q2), .second, .val (.long q3), .second, .val (.long q4), .second, .val (.long q5), .second, .val (.int p6), .unset, .unset, .unset, .unset, .unset, .unset, .unset, .unset, .unset, .unset, .unset, .unset, .unset] [(.long q4), (.long q3), (.long q2), (.long q1), (.ref b1), (.ref b1)])) _
    refine st2.trans ?_
    show Steps p.tables e below (T2.setTop (mkF m 13 #[.val (.long q1), .second, .val (.long q2), .second, .val (.long q3), .second, .val (.long q4), .second, .val (.long q5), .second, .val (.int p6), .unset, .unset, .unset, .unset, .unset, .unset, .unset, .unset, .unset, .unset, .unset, .unset, .unset] [(.ref b1)])) _
    refine XS.astore X2.here hx rfl (hb hby at_13) rfl rfl (l' := #[.val (.long q1), .second, .val (.long q2), .second, .val (.long q3), .second, .val (.long q4), .second, .val (.long q5), .second, .val (.int p6), .val (.ref b1), .unset, .unset, .unset, .unset, .unset, .unset, .unset, .unset, .unset, .unset, .unset, .unset]) rfl ?_
    show Steps p.tables e below (T2.setTop (mkF m 15 #[.val (.long q1), .second, .val (.long q2), .second, .val (.long q3), .second, .val (.long q4), .second, .val (.long q5), .second, .val (.int p6), .val (.ref b1), .unset, .unset, .unset, .unset, .unset, .unset, .unset, .unset, .unset, .unset, .unset, .unset] [])) _
    refine XS.iload X2.here hx rfl (hb hby at_15) rfl ?_
    show Steps p.tables e below (T2.setTop (mkF m 17 #[.val (.long q1), .second, .val (.long q2), .second, .val (.long q3), .second, .val (.long q4), .second, .val (.long q5), .second, .val (.int p6), .val (.ref b1), .unset, .unset, .unset, .unset, .unset, .unset, .unset, .unset, .unset, .unset, .unset, .unset] [(.int p6)])) _
    refine XS.bipush X2.here hx rfl (hb hby at_17) ?_
    show Steps p.tables e below (T2.setTop (mkF m 19 #[.val (.long q1), .second, .val (.long q2), .second, .val (.long q3), .second, .val (.long q4), .second, .val (.long q5), .second, .val (.int p6), .val (.ref b1), .unset, .unset, .unset, .unset, .unset, .unset, .unset, .unset, .unset, .unset, .unset, .unset] [(.int (15 : Int32)), (.int p6)])) _
    refine XS.iand X2.here hx rfl (hb hby at_19) rfl ?_
    show Steps p.tables e below (T2.setTop (mkF m 20 #[.val (.long q1), .second, .val (.long q2), .second, .val (.long q3), .second, .val (.long q4), .second, .val (.long q5), .second, .val (.int p6), .val (.ref b1), .unset, .unset, .unset, .unset, .unset, .unset, .unset, .unset, .unset, .unset, .unset, .unset] [(.int (p6 &&& (15 : Int32)))])) _
    refine XS.istore X2.here hx rfl (hb hby at_20) rfl (l' := #[.val (.long q1), .second, .val (.long q2), .second, .val (.long q3), .second, .val (.long q4), .second, .val (.long q5), .second, .val (.int p6), .val (.ref b1), .val (.int (p6 &&& (15 : Int32))), .unset, .unset, .unset, .unset, .unset, .unset, .unset, .unset, .unset, .unset, .unset]) rfl ?_
    show Steps p.tables e below (T2.setTop (mkF m 22 #[.val (.long q1), .second, .val (.long q2), .second, .val (.long q3), .second, .val (.long q4), .second, .val (.long q5), .second, .val (.int p6), .val (.ref b1), .val (.int (p6 &&& (15 : Int32))), .unset, .unset, .unset, .unset, .unset, .unset, .unset, .unset, .unset, .unset, .unset] [])) _
    refine XS.iload X2.here hx rfl (hb hby at_22) rfl ?_
    show Steps p.tables e below (T2.setTop (mkF m 24 #[.val (.long q1), .second, .val (.long q2), .second, .val (.long q3), .second, .val (.long q4), .second, .val (.long q5), .second, .val (.int p6), .val (.ref b1), .val (.int (p6 &&& (15 : Int32))), .unset, .unset, .unset, .unset, .unset, .unset, .unset, .unset, .unset, .unset, .unset] [(.int (p6 &&& (15 : Int32)))])) _
    refine XS.iconst X2.here hx rfl (hb hby at_24) ?_
    show Steps p.tables e below (T2.setTop (mkF m 25 #[.val (.long q1), .second, .val (.long q2), .second, .val (.long q3), .second, .val (.long q4), .second, .val (.long q5), .second, .val (.int p6), .val (.ref b1), .val (.int (p6 &&& (15 : Int32))), .unset, .unset, .unset, .unset, .unset, .unset, .unset, .unset, .unset, .unset, .unset] [(.int (1 : Int32)), (.int (p6 &&& (15 : Int32)))])) _
    refine XS.iand X2.here hx rfl (hb hby at_25) rfl ?_
    show Steps p.tables e below (T2.setTop (mkF m 26 #[.val (.long q1), .second, .val (.long q2), .second, .val (.long q3), .second, .val (.long q4), .second, .val (.long q5), .second, .val (.int p6), .val (.ref b1), .val (.int (p6 &&& (15 : Int32))), .unset, .unset, .unset, .unset, .unset, .unset, .unset, .unset, .unset, .unset, .unset] [(.int ((p6 &&& (15 : Int32)) &&& (1 : Int32)))])) _
    refine dm3 _ ?_
    show Steps p.tables e below (T2.setTop (mkF m 37 #[.val (.long q1), .second, .val (.long q2), .second, .val (.long q3), .second, .val (.long q4), .second, .val (.long q5), .second, .val (.int p6), .val (.ref b1), .val (.int (p6 &&& (15 : Int32))), .unset, .unset, .unset, .unset, .unset, .unset, .unset, .unset, .unset, .unset, .unset] [(.long (own_b p6 (1 : Int32) q1 q5))])) _
    refine XS.lstore X2.here hx rfl (hb hby at_37) rfl (l' := #[.val (.long q1), .second, .val (.long q2), .second, .val (.long q3), .second, .val (.long q4), .second, .val (.long q5), .second, .val (.int p6), .val (.ref b1), .val (.int (p6 &&& (15 : Int32))), .val (.long (own_b p6 (1 : Int32) q1 q5)), .second, .unset, .unset, .unset, .unset, .unset, .unset, .unset, .unset, .unset]) rfl ?_
    show Steps p.tables e below (T2.setTop (mkF m 39 #[.val (.long q1), .second, .val (.long q2), .second, .val (.long q3), .second, .val (.long q4), .second, .val (.long q5), .second, .val (.int p6), .val (.ref b1), .val (.int (p6 &&& (15 : Int32))), .val (.long (own_b p6 (1 : Int32) q1 q5)), .second, .unset, .unset, .unset, .unset, .unset, .unset, .unset, .unset, .unset] [])) _
    refine XS.iload X2.here hx rfl (hb hby at_39) rfl ?_
    show Steps p.tables e below (T2.setTop (mkF m 41 #[.val (.long q1), .second, .val (.long q2), .second, .val (.long q3), .second, .val (.long q4), .second, .val (.long q5), .second, .val (.int p6), .val (.ref b1), .val (.int (p6 &&& (15 : Int32))), .val (.long (own_b p6 (1 : Int32) q1 q5)), .second, .unset, .unset, .unset, .unset, .unset, .unset, .unset, .unset, .unset] [(.int (p6 &&& (15 : Int32)))])) _
    refine XS.iconst X2.here hx rfl (hb hby at_41) ?_
    show Steps p.tables e below (T2.setTop (mkF m 42 #[.val (.long q1), .second, .val (.long q2), .second, .val (.long q3), .second, .val (.long q4), .second, .val (.long q5), .second, .val (.int p6), .val (.ref b1), .val (.int (p6 &&& (15 : Int32))), .val (.long (own_b p6 (1 : Int32) q1 q5)), .second, .unset, .unset, .unset, .unset, .unset, .unset, .unset, .unset, .unset] [(.int (2 : Int32)), (.int (p6 &&& (15 : Int32)))])) _
    refine XS.iand X2.here hx rfl (hb hby at_42) rfl ?_
    show Steps p.tables e below (T2.setTop (mkF m 43 #[.val (.long q1), .second, .val (.long q2), .second, .val (.long q3), .second, .val (.long q4), .second, .val (.long q5), .second, .val (.int p6), .val (.ref b1), .val (.int (p6 &&& (15 : Int32))), .val (.long (own_b p6 (1 : Int32) q1 q5)), .second, .unset, .unset, .unset, .unset, .unset, .unset, .unset, .unset, .unset] [(.int ((p6 &&& (15 : Int32)) &&& (2 : Int32)))])) _
    refine dm4 _ ?_
    show Steps p.tables e below (T2.setTop (mkF m 54 #[.val (.long q1), .second, .val (.long q2), .second, .val (.long q3), .second, .val (.long q4), .second, .val (.long q5), .second, .val (.int p6), .val (.ref b1), .val (.int (p6 &&& (15 : Int32))), .val (.long (own_b p6 (1 : Int32) q1 q5)), .second, .unset, .unset, .unset, .unset, .unset, .unset, .unset, .unset, .unset] [(.long (own_b p6 (2 : Int32) q2 q5))])) _
    refine XS.lstore X2.here hx rfl (hb hby at_54) rfl (l' := #[.val (.long q1), .second, .val (.long q2), .second, .val (.long q3), .second, .val (.long q4), .second, .val (.long q5), .second, .val (.int p6), .val (.ref b1), .val (.int (p6 &&& (15 : Int32))), .val (.long (own_b p6 (1 : Int32) q1 q5)), .second, .val (.long (own_b p6 (2 : Int32) q2 q5)), .second, .unset, .unset, .unset, .unset, .unset, .unset, .unset]) rfl ?_
    show Steps p.tables e below (T2.setTop (mkF m 56 #[.val (.long q1), .second, .val (.long q2), .second, .val (.long q3), .second, .val (.long q4), .second, .val (.long q5), .second, .val (.int p6), .val (.ref b1), .val (.int (p6 &&& (15 : Int32))), .val (.long (own_b p6 (1 : Int32) q1 q5)), .second, .val (.long (own_b p6 (2 : Int32) q2 q5)), .second, .unset, .unset, .unset, .unset, .unset, .unset, .unset] [])) _
    refine XS.iload X2.here hx rfl (hb hby at_56) rfl ?_
    show Steps p.tables e below (T2.setTop (mkF m 58 #[.val (.long q1), .second, .val (.long q2), .second, .val (.long q3), .second, .val (.long q4), .second, .val (.long q5), .second, .val (.int p6), .val (.ref b1), .val (.int (p6 &&& (15 : Int32))), .val (.long (own_b p6 (1 : Int32) q1 q5)), .second, .val (.long (own_b p6 (2 : Int32) q2 q5)), .second, .unset, .unset, .unset, .unset, .unset, .unset, .unset] [(.int (p6 &&& (15 : Int32)))])) _
    refine XS.iconst X2.here hx rfl (hb hby at_58) ?_
    show Steps p.tables e below (T2.setTop (mkF m 59 #[.val (.long q1), .second, .val (.long q2), .second, .val (.long q3), .second, .val (.long q4), .second, .val (.long q5), .second, .val (.int p6), .val (.ref b1), .val (.int (p6 &&& (15 : Int32))), .val (.long (own_b p6 (1 : Int32) q1 q5)), .second, .val (.long (own_b p6 (2 : Int32) q2 q5)), .second, .unset, .unset, .unset, .unset, .unset, .unset, .unset] [(.int (4 : Int32)), (.int (p6 &&& (15 : Int32)))])) _
    refine XS.iand X2.here hx rfl (hb hby at_59) rfl ?_
    show Steps p.tables e below (T2.setTop (mkF m 60 #[.val (.long q1), .second, .val (.long q2), .second, .val (.long q3), .second, .val (.long q4), .second, .val (.long q5), .second, .val (.int p6), .val (.ref b1), .val (.int (p6 &&& (15 : Int32))), .val (.long (own_b p6 (1 : Int32) q1 q5)), .second, .val (.long (own_b p6 (2 : Int32) q2 q5)), .second, .unset, .unset, .unset, .unset, .unset, .unset, .unset] [(.int ((p6 &&& (15 : Int32)) &&& (4 : Int32)))])) _
    refine dm5 _ ?_
    show Steps p.tables e below (T2.setTop (mkF m 73 #[.val (.long q1), .second, .val (.long q2), .second, .val (.long q3), .second, .val (.long q4), .second, .val (.long q5), .second, .val (.int p6), .val (.ref b1), .val (.int (p6 &&& (15 : Int32))), .val (.long (own_b p6 (1 : Int32) q1 q5)), .second, .val (.long (own_b p6 (2 : Int32) q2 q5)), .second, .unset, .unset, .unset, .unset, .unset, .unset, .unset] [(.long (own_b p6 (4 : Int32) q3 q5))])) _
    refine XS.lstore X2.here hx rfl (hb hby at_73) rfl (l' := #[.val (.long q1), .second, .val (.long q2), .second, .val (.long q3), .second, .val (.long q4), .second, .val (.long q5), .second, .val (.int p6), .val (.ref b1), .val (.int (p6 &&& (15 : Int32))), .val (.long (own_b p6 (1 : Int32) q1 q5)), .second, .val (.long (own_b p6 (2 : Int32) q2 q5)), .second, .val (.long (own_b p6 (4 : Int32) q3 q5)), .second, .unset, .unset, .unset, .unset, .unset]) rfl ?_
    show Steps p.tables e below (T2.setTop (mkF m 75 #[.val (.long q1), .second, .val (.long q2), .second, .val (.long q3), .second, .val (.long q4), .second, .val (.long q5), .second, .val (.int p6), .val (.ref b1), .val (.int (p6 &&& (15 : Int32))), .val (.long (own_b p6 (1 : Int32) q1 q5)), .second, .val (.long (own_b p6 (2 : Int32) q2 q5)), .second, .val (.long (own_b p6 (4 : Int32) q3 q5)), .second, .unset, .unset, .unset, .unset, .unset] [])) _
    refine XS.iload X2.here hx rfl (hb hby at_75) rfl ?_
    show Steps p.tables e below (T2.setTop (mkF m 77 #[.val (.long q1), .second, .val (.long q2), .second, .val (.long q3), .second, .val (.long q4), .second, .val (.long q5), .second, .val (.int p6), .val (.ref b1), .val (.int (p6 &&& (15 : Int32))), .val (.long (own_b p6 (1 : Int32) q1 q5)), .second, .val (.long (own_b p6 (2 : Int32) q2 q5)), .second, .val (.long (own_b p6 (4 : Int32) q3 q5)), .second, .unset, .unset, .unset, .unset, .unset] [(.int (p6 &&& (15 : Int32)))])) _
    refine XS.bipush X2.here hx rfl (hb hby at_77) ?_
    show Steps p.tables e below (T2.setTop (mkF m 79 #[.val (.long q1), .second, .val (.long q2), .second, .val (.long q3), .second, .val (.long q4), .second, .val (.long q5), .second, .val (.int p6), .val (.ref b1), .val (.int (p6 &&& (15 : Int32))), .val (.long (own_b p6 (1 : Int32) q1 q5)), .second, .val (.long (own_b p6 (2 : Int32) q2 q5)), .second, .val (.long (own_b p6 (4 : Int32) q3 q5)), .second, .unset, .unset, .unset, .unset, .unset] [(.int (8 : Int32)), (.int (p6 &&& (15 : Int32)))])) _
    refine XS.iand X2.here hx rfl (hb hby at_79) rfl ?_
    show Steps p.tables e below (T2.setTop (mkF m 80 #[.val (.long q1), .second, .val (.long q2), .second, .val (.long q3), .second, .val (.long q4), .second, .val (.long q5), .second, .val (.int p6), .val (.ref b1), .val (.int (p6 &&& (15 : Int32))), .val (.long (own_b p6 (1 : Int32) q1 q5)), .second, .val (.long (own_b p6 (2 : Int32) q2 q5)), .second, .val (.long (own_b p6 (4 : Int32) q3 q5)), .second, .unset, .unset, .unset, .unset, .unset] [(.int ((p6 &&& (15 : Int32)) &&& (8 : Int32)))])) _
    refine dm6 _ ?_
    show Steps p.tables e below (T2.setTop (mkF m 93 #[.val (.long q1), .second, .val (.long q2), .second, .val (.long q3), .second, .val (.long q4), .second, .val (.long q5), .second, .val (.int p6), .val (.ref b1), .val (.int (p6 &&& (15 : Int32))), .val (.long (own_b p6 (1 : Int32) q1 q5)), .second, .val (.long (own_b p6 (2 : Int32) q2 q5)), .second, .val (.long (own_b p6 (4 : Int32) q3 q5)), .second, .unset, .unset, .unset, .unset, .unset] [(.long (own_b p6 (8 : Int32) q4 q5))])) _
    refine XS.lstore X2.here hx rfl (hb hby at_93) rfl (l' := #[.val (.long q1), .second, .val (.long q2), .second, .val (.long q3), .second, .val (.long q4), .second, .val (.long q5), .second, .val (.int p6), .val (.ref b1), .val (.int (p6 &&& (15 : Int32))), .val (.long (own_b p6 (1 : Int32) q1 q5)), .second, .val (.long (own_b p6 (2 : Int32) q2 q5)), .second, .val (.long (own_b p6 (4 : Int32) q3 q5)), .second, .val (.long (own_b p6 (8 : Int32) q4 q5)), .second, .unset, .unset, .unset]) rfl ?_
    show Steps p.tables e below (T2.setTop (mkF m 95 #[.val (.long q1), .second, .val (.long q2), .second, .val (.long q3), .second, .val (.long q4), .second, .val (.long q5), .second, .val (.int p6), .val (.ref b1), .val (.int (p6 &&& (15 : Int32))), .val (.long (own_b p6 (1 : Int32) q1 q5)), .second, .val (.long (own_b p6 (2 : Int32) q2 q5)), .second, .val (.long (own_b p6 (4 : Int32) q3 q5)), .second, .val (.long (own_b p6 (8 : Int32) q4 q5)), .second, .unset, .unset, .unset] [])) _
    refine st7 _ ?_
    show Steps p.tables e below (T7.setTop (mkF m 98 #[.val (.long q1), .second, .val (.long q2), .second, .val (.long q3), .second, .val (.long q4), .second, .val (.long q5), .second, .val (.int p6), .val (.ref b1), .val (.int (p6 &&& (15 : Int32))), .val (.long (own_b p6 (1 : Int32) q1 q5)), .second, .val (.long (own_b p6 (2 : Int32) q2 q5)), .second, .val (.long (own_b p6 (4 : Int32) q3 q5)), .second, .val (.long (own_b p6 (8 : Int32) q4 q5)), .second, .unset, .unset, .unset] [(.ref b7)])) _
    refine XS.dup X7.here hx rfl (hb hby at_98) rfl rfl ?_
    show Steps p.tables e below (T7.setTop (mkF m 99 #[.val (.long q1), .second, .val (.long q2), .second, .val (.long q3), .second, .val (.long q4), .second, .val (.long q5), .second, .val (.int p6), .val (.ref b1), .val (.int (p6 &&& (15 : Int32))), .val (.long (own_b p6 (1 : Int32) q1 q5)), .second, .val (.long (own_b p6 (2 : Int32) q2 q5)), .second, .val (.long (own_b p6 (4 : Int32) q3 q5)), .second, .val (.long (own_b p6 (8 : Int32) q4 q5)), .second, .unset, .unset, .unset] [(.ref b7), (.ref b7)])) _
    refine XS.lload X7.here hx rfl (hb hby at_99) rfl ?_
    show Steps p.tables e below (T7.setTop (mkF m 101 #[.val (.long q1), .second, .val (.long q2), .second, .val (.long q3), .second, .val (.long q4), .second, .val (.long q5), .second, .val (.int p6), .val (.ref b1), .val (.int (p6 &&& (15 : Int32))), .val (.long (own_b p6 (1 : Int32) q1 q5)), .second, .val (.long (own_b p6 (2 : Int32) q2 q5)), .second, .val (.long (own_b p6 (4 : Int32) q3 q5)), .second, .val (.long (own_b p6 (8 : Int32) q4 q5)), .second, .unset, .unset, .unset] [(.long (own_b p6 (1 : Int32) q1 q5)), (.ref b7), (.ref b7)])) _
    refine XS.lload X7.here hx rfl (hb hby at_101) rfl ?_
    show Steps p.tables e below (T7.setTop (mkF m 103 #[.val (.long q1), .second, .val (.long q2), .second, .val (.long q3), .second, .val (.long q4), .second, .val (.long q5), .second, .val (.int p6), .val (.ref b1), .val (.int (p6 &&& (15 : Int32))), .val (.long (own_b p6 (1 : Int32) q1 q5)), .second, .val (.long (own_b p6 (2 : Int32) q2 q5)), .second, .val (.long (own_b p6 (4 : Int32) q3 q5)), .second, .val (.long (own_b p6 (8 : Int32) q4 q5)), .second, .unset, .unset, .unset] [(.long (own_b p6 (2 : Int32) q2 q5)), (.long (own_b p6 (1 : Int32) q1 q5)), (.ref b7), (.ref b7)])) _
    refine XS.lload X7.here hx rfl (hb hby at_103) rfl ?_
    show Steps p.tables e below (T7.setTop (mkF m 105 #[.val (.long q1), .second, .val (.long q2), .second, .val (.long q3), .second, .val (.long q4), .second, .val (.long q5), .second, .val (.int p6), .val (.ref b1), .val (.int (p6 &&& (15 : Int32))), .val (.long (own_b p6 (1 : Int32) q1 q5)), .second, .val (.long (own_b p6 (2 : Int32) q2 q5)), .second, .val (.long (own_b p6 (4 : Int32) q3 q5)), .second, .val (.long (own_b p6 (8 : Int32) q4 q5)), .second, .unset, .unset, .unset] [(.long (own_b p6 (4 : Int32) q3 q5)), (.long (own_b p6 (2 : Int32) q2 q5)), (.long (own_b p6 (1 : Int32) q1 q5)), (.ref b7), (.ref b7)])) _
    refine XS.lload X7.here hx rfl (hb hby at_105) rfl ?_
    show Steps p.tables e below (T7.setTop (mkF m 107 #[.val (.long q1), .second, .val (.long q2), .second, .val (.long q3), .second, .val (.long q4), .second, .val (.long q5), .second, .val (.int p6), .val (.ref b1), .val (.int (p6 &&& (15 : Int32))), .val (.long (own_b p6 (1 : Int32) q1 q5)), .second, .val (.long (own_b p6 (2 : Int32) q2 q5)), .second, .val (.long (own_b p6 (4 : Int32) q3 q5)), .second, .val (.long (own_b p6 (8 : Int32) q4 q5)), .second, .unset, .unset, .unset] [(.long (own_b p6 (8 : Int32) q4 q5)), (.long (own_b p6 (4 : Int32) q3 q5)), (.long (own_b p6 (2 : Int32) q2 q5)), (.long (own_b p6 (1 : Int32) q1 q5)), (.ref b7), (.ref b7)])) _
    refine st8.trans ?_
    show Steps p.tables e below (T8.setTop (mkF m 110 #[.val (.long q1), .second, .val (.long q2), .second, .val (.long q3), .second, .val (.long q4), .second, .val (.long q5), .second, .val (.int p6), .val (.ref b1), .val (.int (p6 &&& (15 : Int32))), .val (.long (own_b p6 (1 : Int32) q1 q5)), .second, .val (.long (own_b p6 (2 : Int32) q2 q5)), .second, .val (.long (own_b p6 (4 : Int32) q3 q5)), .second, .val (.long (own_b p6 (8 : Int32) q4 q5)), .second, .unset, .unset, .unset] [(.ref b7)])) _
    refine XS.astore X8.here hx rfl (hb hby at_110) rfl rfl (l' := #[.val (.long q1), .second, .val (.long q2), .second, .val (.long q3), .second, .val (.long q4), .second, .val (.long q5), .second, .val (.int p6), .val (.ref b1), .val (.int (p6 &&& (15 : Int32))), .val (.long (own_b p6 (1 : Int32) q1 q5)), .second, .val (.long (own_b p6 (2 : Int32) q2 q5)), .second, .val (.long (own_b p6 (4 : Int32) q3 q5)), .second, .val (.long (own_b p6 (8 : Int32) q4 q5)), .second, .val (.ref b7), .unset, .unset]) rfl ?_
    show Steps p.tables e below (T8.setTop (mkF m 112 #[.val (.long q1), .second, .val (.long q2), .second, .val (.long q3), .second, .val (.long q4), .second, .val (.long q5), .second, .val (.int p6), .val (.ref b1), .val (.int (p6 &&& (15 : Int32))), .val (.long (own_b p6 (1 : Int32) q1 q5)), .second, .val (.long (own_b p6 (2 : Int32) q2 q5)), .second, .val (.long (own_b p6 (4 : Int32) q3 q5)), .second, .val (.long (own_b p6 (8 : Int32) q4 q5)), .second, .val (.ref b7), .unset, .unset] [])) _
    refine XS.iload X8.here hx rfl (hb hby at_112) rfl ?_
    show Steps p.tables e below (T8.setTop (mkF m 114 #[.val (.long q1), .second, .val (.long q2), .second, .val (.long q3), .second, .val (.long q4), .second, .val (.long q5), .second, .val (.int p6), .val (.ref b1), .val (.int (p6 &&& (15 : Int32))), .val (.long (own_b p6 (1 : Int32) q1 q5)), .second, .val (.long (own_b p6 (2 : Int32) q2 q5)), .second, .val (.long (own_b p6 (4 : Int32) q3 q5)), .second, .val (.long (own_b p6 (8 : Int32) q4 q5)), .second, .val (.ref b7), .unset, .unset] [(.int p6)])) _
    refine XS.iconst X8.here hx rfl (hb hby at_114) ?_
    show Steps p.tables e below (T8.setTop (mkF m 115 #[.val (.long q1), .second, .val (.long q2), .second, .val (.long q3), .second, .val (.long q4), .second, .val (.long q5), .second, .val (.int p6), .val (.ref b1), .val (.int (p6 &&& (15 : Int32))), .val (.long (own_b p6 (1 : Int32) q1 q5)), .second, .val (.long (own_b p6 (2 : Int32) q2 q5)), .second, .val (.long (own_b p6 (4 : Int32) q3 q5)), .second, .val (.long (own_b p6 (8 : Int32) q4 q5)), .second, .val (.ref b7), .unset, .unset] [(.int (4 : Int32)), (.int p6)])) _
    refine XS.iushr X8.here hx rfl (hb hby at_115) rfl ?_
    show Steps p.tables e below (T8.setTop (mkF m 116 #[.val (.long q1), .second, .val (.long q2), .second, .val (.long q3), .second, .val (.long q4), .second, .val (.long q5), .second, .val (.int p6), .val (.ref b1), .val (.int (p6 &&& (15 : Int32))), .val (.long (own_b p6 (1 : Int32) q1 q5)), .second, .val (.long (own_b p6 (2 : Int32) q2 q5)), .second, .val (.long (own_b p6 (4 : Int32) q3 q5)), .second, .val (.long (own_b p6 (8 : Int32) q4 q5)), .second, .val (.ref b7), .unset, .unset] [(.int ((p6.toUInt32 >>> ((4 : Int32) &&& 31).toUInt32).toInt32))])) _
    refine XS.iconst X8.here hx rfl (hb hby at_116) ?_
    show Steps p.tables e below (T8.setTop (mkF m 117 #[.val (.long q1), .second, .val (.long q2), .second, .val (.long q3), .second, .val (.long q4), .second, .val (.long q5), .second, .val (.int p6), .val (.ref b1), .val (.int (p6 &&& (15 : Int32))), .val (.long (own_b p6 (1 : Int32) q1 q5)), .second, .val (.long (own_b p6 (2 : Int32) q2 q5)), .second, .val (.long (own_b p6 (4 : Int32) q3 q5)), .second, .val (.long (own_b p6 (8 : Int32) q4 q5)), .second, .val (.ref b7), .unset, .unset] [(.int (3 : Int32)), (.int ((p6.toUInt32 >>> ((4 : Int32) &&& 31).toUInt32).toInt32))])) _
    refine XS.iand X8.here hx rfl (hb hby at_117) rfl ?_
    show Steps p.tables e below (T8.setTop (mkF m 118 #[.val (.long q1), .second, .val (.long q2), .second, .val (.long q3), .second, .val (.long q4), .second, .val (.long q5), .second, .val (.int p6), .val (.ref b1), .val (.int (p6 &&& (15 : Int32))), .val (.long (own_b p6 (1 : Int32) q1 q5)), .second, .val (.long (own_b p6 (2 : Int32) q2 q5)), .second, .val (.long (own_b p6 (4 : Int32) q3 q5)), .second, .val (.long (own_b p6 (8 : Int32) q4 q5)), .second, .val (.ref b7), .unset, .unset] [(.int (((p6.toUInt32 >>> ((4 : Int32) &&& 31).toUInt32).toInt32) &&& (3 : Int32)))])) _
    rw [P1]
    show Steps p.tables e below (T8.setTop (mkF m 118 #[.val (.long q1), .second, .val (.long q2), .second, .val (.long q3), .second, .val (.long q4), .second, .val (.long q5), .second, .val (.int p6), .val (.ref b1), .val (.int (p6 &&& (15 : Int32))), .val (.long (own_b p6 (1 : Int32) q1 q5)), .second, .val (.long (own_b p6 (2 : Int32) q2 q5)), .second, .val (.long (own_b p6 (4 : Int32) q3 q5)), .second, .val (.long (own_b p6 (8 : Int32) q4 q5)), .second, .val (.ref b7), .unset, .unset] [(.int (3 : Int32))])) _
    refine XS.istore X8.here hx rfl (hb hby at_118) rfl (l' := #[.val (.long q1), .second, .val (.long q2), .second, .val (.long q3), .second, .val (.long q4), .second, .val (.long q5), .second, .val (.int p6), .val (.ref b1), .val (.int (p6 &&& (15 : Int32))), .val (.long (own_b p6 (1 : Int32) q1 q5)), .second, .val (.long (own_b p6 (2 : Int32) q2 q5)), .second, .val (.long (own_b p6 (4 : Int32) q3 q5)), .second, .val (.long (own_b p6 (8 : Int32) q4 q5)), .second, .val (.ref b7), .val (.int (3 : Int32)), .unset]) rfl ?_
    show Steps p.tables e below (T8.setTop (mkF m 120 #[.val (.long q1), .second, .val (.long q2), .second, .val (.long q3), .second, .val (.long q4), .second, .val (.long q5), .second, .val (.int p6), .val (.ref b1), .val (.int (p6 &&& (15 : Int32))), .val (.long (own_b p6 (1 : Int32) q1 q5)), .second, .val (.long (own_b p6 (2 : Int32) q2 q5)), .second, .val (.long (own_b p6 (4 : Int32) q3 q5)), .second, .val (.long (own_b p6 (8 : Int32) q4 q5)), .second, .val (.ref b7), .val (.int (3 : Int32)), .unset] [])) _
    refine XS.iload X8.here hx rfl (hb hby at_120) rfl ?_
    show Steps p.tables e below (T8.setTop (mkF m 122 #[.val (.long q1), .second, .val (.long q2), .second, .val (.long q3), .second, .val (.long q4), .second, .val (.long q5), .second, .val (.int p6), .val (.ref b1), .val (.int (p6 &&& (15 : Int32))), .val (.long (own_b p6 (1 : Int32) q1 q5)), .second, .val (.long (own_b p6 (2 : Int32) q2 q5)), .second, .val (.long (own_b p6 (4 : Int32) q3 q5)), .second, .val (.long (own_b p6 (8 : Int32) q4 q5)), .second, .val (.ref b7), .val (.int (3 : Int32)), .unset] [(.int (3 : Int32))])) _
    refine XS.iconst X8.here hx rfl (hb hby at_122) ?_
    show Steps p.tables e below (T8.setTop (mkF m 123 #[.val (.long q1), .second, .val (.long q2), .second, .val (.long q3), .second, .val (.long q4), .second, .val (.long q5), .second, .val (.int p6), .val (.ref b1), .val (.int (p6 &&& (15 : Int32))), .val (.long (own_b p6 (1 : Int32) q1 q5)), .second, .val (.long (own_b p6 (2 : Int32) q2 q5)), .second, .val (.long (own_b p6 (4 : Int32) q3 q5)), .second, .val (.long (own_b p6 (8 : Int32) q4 q5)), .second, .val (.ref b7), .val (.int (3 : Int32)), .unset] [(.int (1 : Int32)), (.int (3 : Int32))])) _
    refine XS.icmpYes X8.here hx rfl (pc0 := 123) (pc' := 141) rfl (hb hby at_123) rfl (by decide) (by decide) (by decide) ?_
    show Steps p.tables e below (T8.setTop (mkF m 141 #[.val (.long q1), .second, .val (.long q2), .second, .val (.long q3), .second, .val (.long q4), .second, .val (.long q5), .second, .val (.int p6), .val (.ref b1), .val (.int (p6 &&& (15 : Int32))), .val (.long (own_b p6 (1 : Int32) q1 q5)), .second, .val (.long (own_b p6 (2 : Int32) q2 q5)), .second, .val (.long (own_b p6 (4 : Int32) q3 q5)), .second, .val (.long (own_b p6 (8 : Int32) q4 q5)), .second, .val (.ref b7), .val (.int (3 : Int32)), .unset] [])) _
    refine XS.iload X8.here hx rfl (hb hby at_141) rfl ?_
    show Steps p.tables e below (T8.setTop (mkF m 143 #[.val (.long q1), .second, .val (.long q2), .second, .val (.long q3), .second, .val (.long q4), .second, .val (.long q5), .second, .val (.int p6), .val (.ref b1), .val (.int (p6 &&& (15 : Int32))), .val (.long (own_b p6 (1 : Int32) q1 q5)), .second, .val (.long (own_b p6 (2 : Int32) q2 q5)), .second, .val (.long (own_b p6 (4 : Int32) q3 q5)), .second, .val (.long (own_b p6 (8 : Int32) q4 q5)), .second, .val (.ref b7), .val (.int (3 : Int32)), .unset] [(.int (3 : Int32))])) _
    refine XS.iconst X8.here hx rfl (hb hby at_143) ?_
    show Steps p.tables e below (T8.setTop (mkF m 144 #[.val (.long q1), .second, .val (.long q2), .second, .val (.long q3), .second, .val (.long q4), .second, .val (.long q5), .second, .val (.int p6), .val (.ref b1), .val (.int (p6 &&& (15 : Int32))), .val (.long (own_b p6 (1 : Int32) q1 q5)), .second, .val (.long (own_b p6 (2 : Int32) q2 q5)), .second, .val (.long (own_b p6 (4 : Int32) q3 q5)), .second, .val (.long (own_b p6 (8 : Int32) q4 q5)), .second, .val (.ref b7), .val (.int (3 : Int32)), .unset] [(.int (2 : Int32)), (.int (3 : Int32))])) _
    refine XS.icmpYes X8.here hx rfl (pc0 := 144) (pc' := 165) rfl (hb hby at_144) rfl (by decide) (by decide) (by decide) ?_
    show Steps p.tables e below (T8.setTop (mkF m 165 #[.val (.long q1), .second, .val (.long q2), .second, .val (.long q3), .second, .val (.long q4), .second, .val (.long q5), .second, .val (.int p6), .val (.ref b1), .val (.int (p6 &&& (15 : Int32))), .val (.long (own_b p6 (1 : Int32) q1 q5)), .second, .val (.long (own_b p6 (2 : Int32) q2 q5)), .second, .val (.long (own_b p6 (4 : Int32) q3 q5)), .second, .val (.long (own_b p6 (8 : Int32) q4 q5)), .second, .val (.ref b7), .val (.int (3 : Int32)), .unset] [])) _
    refine XS.iload X8.here hx rfl (hb hby at_165) rfl ?_
    show Steps p.tables e below (T8.setTop (mkF m 167 #[.val (.long q1), .second, .val (.long q2), .second, .val (.long q3), .second, .val (.long q4), .second, .val (.long q5), .second, .val (.int p6), .val (.ref b1), .val (.int (p6 &&& (15 : Int32))), .val (.long (own_b p6 (1 : Int32) q1 q5)), .second, .val (.long (own_b p6 (2 : Int32) q2 q5)), .second, .val (.long (own_b p6 (4 : Int32) q3 q5)), .second, .val (.long (own_b p6 (8 : Int32) q4 q5)), .second, .val (.ref b7), .val (.int (3 : Int32)), .unset] [(.int (3 : Int32))])) _
    refine XS.iconst X8.here hx rfl (hb hby at_167) ?_
    show Steps p.tables e below (T8.setTop (mkF m 168 #[.val (.long q1), .second, .val (.long q2), .second, .val (.long q3), .second, .val (.long q4), .second, .val (.long q5), .second, .val (.int p6), .val (.ref b1), .val (.int (p6 &&& (15 : Int32))), .val (.long (own_b p6 (1 : Int32) q1 q5)), .second, .val (.long (own_b p6 (2 : Int32) q2 q5)), .second, .val (.long (own_b p6 (4 : Int32) q3 q5)), .second, .val (.long (own_b p6 (8 : Int32) q4 q5)), .second, .val (.ref b7), .val (.int (3 : Int32)), .unset] [(.int (3 : Int32)), (.int (3 : Int32))])) _
    refine XS.icmpNo X8.here hx rfl (hb hby at_168) rfl (by decide) ?_
    show Steps p.tables e below (T8.setTop (mkF m 171 #[.val (.long q1), .second, .val (.long q2), .second, .val (.long q3), .second, .val (.long q4), .second, .val (.long q5), .second, .val (.int p6), .val (.ref b1), .val (.int (p6 &&& (15 : Int32))), .val (.long (own_b p6 (1 : Int32) q1 q5)), .second, .val (.long (own_b p6 (2 : Int32) q2 q5)), .second, .val (.long (own_b p6 (4 : Int32) q3 q5)), .second, .val (.long (own_b p6 (8 : Int32) q4 q5)), .second, .val (.ref b7), .val (.int (3 : Int32)), .unset] [])) _
    refine XS.aload X8.here hx rfl (hb hby at_171) rfl rfl ?_
    show Steps p.tables e below (T8.setTop (mkF m 173 #[.val (.long q1), .second, .val (.long q2), .second, .val (.long q3), .second, .val (.long q4), .second, .val (.long q5), .second, .val (.int p6), .val (.ref b1), .val (.int (p6 &&& (15 : Int32))), .val (.long (own_b p6 (1 : Int32) q1 q5)), .second, .val (.long (own_b p6 (2 : Int32) q2 q5)), .second, .val (.long (own_b p6 (4 : Int32) q3 q5)), .second, .val (.long (own_b p6 (8 : Int32) q4 q5)), .second, .val (.ref b7), .val (.int (3 : Int32)), .unset] [(.ref b1)])) _
    refine XS.aload X8.here hx rfl (hb hby at_173) rfl rfl ?_
    show Steps p.tables e below (T8.setTop (mkF m 175 #[.val (.long q1), .second, .val (.long q2), .second, .val (.long q3), .second, .val (.long q4), .second, .val (.long q5), .second, .val (.int p6), .val (.ref b1), .val (.int (p6 &&& (15 : Int32))), .val (.long (own_b p6 (1 : Int32) q1 q5)), .second, .val (.long (own_b p6 (2 : Int32) q2 q5)), .second, .val (.long (own_b p6 (4 : Int32) q3 q5)), .second, .val (.long (own_b p6 (8 : Int32) q4 q5)), .second, .val (.ref b7), .val (.int (3 : Int32)), .unset] [(.ref b1), (.ref b1)])) _
    refine st10.trans ?_
    show Steps p.tables e below (T10.setTop (mkF m 178 #[.val (.long q1), .second, .val (.long q2), .second, .val (.long q3), .second, .val (.long q4), .second, .val (.long q5), .second, .val (.int p6), .val (.ref b1), .val (.int (p6 &&& (15 : Int32))), .val (.long (own_b p6 (1 : Int32) q1 q5)), .second, .val (.long (own_b p6 (2 : Int32) q2 q5)), .second, .val (.long (own_b p6 (4 : Int32) q3 q5)), .second, .val (.long (own_b p6 (8 : Int32) q4 q5)), .second, .val (.ref b7), .val (.int (3 : Int32)), .unset] [(.int (1 : Int32))])) _
    exact retN X10 hx (t := .boolean) Bd.returns (by simp) (hb hby at_178) hr
  · show own_Q1 n0 _ T10.heap _
    rw [e10]
    exact ⟨rfl, N10⟩
set_option maxRecDepth 65536 in
set_option maxHeartbeats 40000000 in
theorem comes_1 {Post : Tables → Env → Array Value → State → Outcome → State → Prop} (hpost : ∀ tb e args s v u, (limb_1_1.after args s (.returned v) u = true ∧ limb_1_2.after args s (.returned v) u = true ∧ True) → FrameEnd s (.returned v) u (Jvm.fieldLocs frame_1_writes args s ++ Jvm.arrayLocs frame_1_arrays args s ++ Jvm.staticLocs frame_1_statics s) 16 128 → Post tb e args s (.returned v) u) :
    ArmFor flags0 classFile x code maxLocals ret World_1 tables_1 room_1 Calls_1 rest_1 Pre_1 Post := by
  intro l hfl _ _ p e ha hc hk s m args below hf hA hF happ hP
  obtain ⟨hcalls, hrest, hpre⟩ := hP
  obtain ⟨-, -, -, hnamed, -, -, -, hat⟩ := (Spec.applies_iff hf).mp happ
  obtain ⟨hg, hn⟩ := and_e (Cond.before_iff.mp (show (Jvm.Cond.and given_1 narrow_1).before args s = true from hpre))
  obtain ⟨g1, g2⟩ := and_e hg
  obtain ⟨g3, g4⟩ := and_e g2
  obtain ⟨g5, g6⟩ := and_e g4
  obtain ⟨g7, g8⟩ := and_e g6
  obtain ⟨g9, g10⟩ := and_e g8
  obtain ⟨g11, g12⟩ := and_e g10
  obtain ⟨v0, v1, v2, v3, v4, v5, rfl⟩ : ∃ v0 v1 v2 v3 v4 v5 : Value, args = #[v0, v1, v2, v3, v4, v5] := by
    have hs : args.size = 6 := by simpa [Cond.value, given_1] using g1
    obtain ⟨L⟩ := args
    match L, hs with
    | [v0, v1, v2, v3, v4, v5], _ => exact ⟨v0, v1, v2, v3, v4, v5, rfl⟩
  have hw := fun d (hd : d ∈ tables_1) => atoms_spec (ws := Jvm.Cond.code x code maxLocals ret :: tables_1) hat d (List.mem_cons_of_mem _ hd)
  have hfit : Fit s := fun {y c} hc i hi => by
    obtain ⟨ha, rfl⟩ := Array.getElem?_eq_some_iff.mp hc
    have q := List.all_eq_true.mp ((Array.all_eq_true_iff_forall_mem.mp hF) _ (Array.getElem_mem ha)) i (List.mem_range.mpr hi)
    simpa [Array.getElem?_eq_getElem hi] using q
  obtain ⟨hsets, hown0⟩ := atoms_of _ (rest_1_c_eq ▸ (show rest_1_c.before _ s = true from hrest))
  have hr0 := Cond.before_iff.mp hown0
  obtain ⟨q1, ei0⟩ := isL_v g3
  obtain rfl : v0 = (.long q1) := Option.some.inj ei0
  obtain ⟨q2, ei1⟩ := isL_v g5
  obtain rfl : v1 = (.long q2) := Option.some.inj ei1
  obtain ⟨q3, ei2⟩ := isL_v g7
  obtain rfl : v2 = (.long q3) := Option.some.inj ei2
  obtain ⟨q4, ei3⟩ := isL_v g9
  obtain rfl : v3 = (.long q4) := Option.some.inj ei3
  obtain ⟨q5, ei4⟩ := isL_v g11
  obtain rfl : v4 = (.long q5) := Option.some.inj ei4
  obtain ⟨p6, ei5⟩ := is_v g12
  obtain rfl : v5 = (.int p6) := Option.some.inj ei5
  obtain ⟨w_cacheJ, ev_w_cacheJ⟩ := arr_v (Cond.before_iff.mp (hsets _ (List.mem_of_getElem? (i := 2) rfl)))
  have S_w_cacheJ := Sta.start ev_w_cacheJ (Or.inl (hsets _ (List.mem_of_getElem? (i := 1) rfl)))
  have C_w_cacheJ := own_caJ ev_w_cacheJ (Cond.before_iff.mp (hsets _ (List.mem_of_getElem? (i := 2) rfl))) (Cond.before_iff.mp (hsets _ (List.mem_of_getElem? (i := 4) rfl))) (Cond.before_iff.mp (hsets _ (List.mem_of_getElem? (i := 5) rfl)))
  have key : MetFree l x (head1 (Jvm.Cond.code x code maxLocals ret :: tables_1) room_1) (fun a U => a = #[(.long q1), (.long q2), (.long q3), (.long q4), (.long q5), (.int p6)] ∧ s.Warmed39 U.vm ∧ U.heap = s.heap) (fun _ _ _ _ _ => True) (fun _ U o U' => ∃ v L, o = .returned v ∧ own_Q1 s.heap.size v U'.heap L ∧ FrameEnd U o U' L room_1.cells room_1.slots) := by
    have hmm : (p6 &&& (15 : Int32)).toInt = p6.toInt % 16 := c_mask p6 15 4 (by decide) (by decide)
    have hkk : (((p6.toUInt32 >>> ((4 : Int32) &&& 31).toUInt32).toInt32) &&& (3 : Int32)).toInt = (((p6.toUInt32 >>> ((4 : Int32) &&& 31).toUInt32).toInt32)).toInt % 4 := c_mask _ 3 2 (by decide) (by decide)
    have hk : (((p6.toUInt32 >>> ((4 : Int32) &&& 31).toUInt32).toInt32) &&& (3 : Int32)) = (0 : Int32) ∨ (((p6.toUInt32 >>> ((4 : Int32) &&& 31).toUInt32).toInt32) &&& (3 : Int32)) = (1 : Int32) ∨ (((p6.toUInt32 >>> ((4 : Int32) &&& 31).toUInt32).toInt32) &&& (3 : Int32)) = (2 : Int32) ∨ (((p6.toUInt32 >>> ((4 : Int32) &&& 31).toUInt32).toInt32) &&& (3 : Int32)) = (3 : Int32) := by
      have z0 : (0 : Int32).toInt = 0 := rfl
      have z1 : (1 : Int32).toInt = 1 := rfl
      have z2 : (2 : Int32).toInt = 2 := rfl
      have z3 : (3 : Int32).toInt = 3 := rfl
      simp only [← Int32.toInt_inj, z0, z1, z2, z3]
      omega
    have sl : ∀ x : Int64, (lcmpW x x) = (0 : Int32) := fun x => (lw_eq x x).mpr rfl
    rcases hk with h | h | h | h
    · have hcs : (p6 &&& (15 : Int32)) = (0 : Int32) ∨ (p6 &&& (15 : Int32)) = (1 : Int32) ∨ (p6 &&& (15 : Int32)) = (2 : Int32) ∨ (p6 &&& (15 : Int32)) = (3 : Int32) ∨ (p6 &&& (15 : Int32)) = (4 : Int32) ∨ (p6 &&& (15 : Int32)) = (5 : Int32) ∨ (p6 &&& (15 : Int32)) = (6 : Int32) ∨ (p6 &&& (15 : Int32)) = (7 : Int32) ∨ (p6 &&& (15 : Int32)) = (8 : Int32) ∨ (p6 &&& (15 : Int32)) = (9 : Int32) ∨ (p6 &&& (15 : Int32)) = (10 : Int32) ∨ (p6 &&& (15 : Int32)) = (11 : Int32) ∨ (p6 &&& (15 : Int32)) = (12 : Int32) ∨ (p6 &&& (15 : Int32)) = (13 : Int32) ∨ (p6 &&& (15 : Int32)) = (14 : Int32) ∨ (p6 &&& (15 : Int32)) = (15 : Int32) := by
        have z0 : (0 : Int32).toInt = 0 := rfl
        have z1 : (1 : Int32).toInt = 1 := rfl
        have z2 : (2 : Int32).toInt = 2 := rfl
        have z3 : (3 : Int32).toInt = 3 := rfl
        have z4 : (4 : Int32).toInt = 4 := rfl
        have z5 : (5 : Int32).toInt = 5 := rfl
        have z6 : (6 : Int32).toInt = 6 := rfl
        have z7 : (7 : Int32).toInt = 7 := rfl
        have z8 : (8 : Int32).toInt = 8 := rfl
        have z9 : (9 : Int32).toInt = 9 := rfl
        have z10 : (10 : Int32).toInt = 10 := rfl
        have z11 : (11 : Int32).toInt = 11 := rfl
        have z12 : (12 : Int32).toInt = 12 := rfl
        have z13 : (13 : Int32).toInt = 13 := rfl
        have z14 : (14 : Int32).toInt = 14 := rfl
        have z15 : (15 : Int32).toInt = 15 := rfl
        simp only [← Int32.toInt_inj, z0, z1, z2, z3, z4, z5, z6, z7, z8, z9, z10, z11, z12, z13, z14, z15]
        omega
      by_cases h0 : (p6 &&& (15 : Int32)) = (0 : Int32)
      · have c0 : ((p6 &&& (15 : Int32)) &&& (1 : Int32)) = (0 : Int32) := by rw [h0]; decide
        have c1 : ((p6 &&& (15 : Int32)) &&& (2 : Int32)) = (0 : Int32) := by rw [h0]; decide
        have c2 : ((p6 &&& (15 : Int32)) &&& (4 : Int32)) = (0 : Int32) := by rw [h0]; decide
        have c3 : ((p6 &&& (15 : Int32)) &&& (8 : Int32)) = (0 : Int32) := by rw [h0]; decide
        exact law_0 l s _ hw tables_1 q1 q2 q3 q4 q5 p6 s.heap s.heap.size (Old.start s) h h0 ((lw_eq _ _).mpr (own_b_pos c0).symm) ((lw_eq _ _).mpr (own_b_pos c1).symm) ((lw_eq _ _).mpr (own_b_pos c2).symm) ((lw_eq _ _).mpr (own_b_pos c3).symm) ((lw_eq _ _).mpr (own_b_pos c0)) ((lw_eq _ _).mpr (own_b_pos c1)) ((lw_eq _ _).mpr (own_b_pos c2)) ((lw_eq _ _).mpr (own_b_pos c3))
      by_cases hd : (lcmpW q5 (0 : Int64)) = (0 : Int32)
      · have e5 : q5 = 0 := (lw_eq _ _).mp hd
        have f0 : (own_b p6 (1 : Int32) q1 q5) = q1 := by rw [e5]; exact own_b_zero
        have f1 : (own_b p6 (2 : Int32) q2 q5) = q2 := by rw [e5]; exact own_b_zero
        have f2 : (own_b p6 (4 : Int32) q3 q5) = q3 := by rw [e5]; exact own_b_zero
        have f3 : (own_b p6 (8 : Int32) q4 q5) = q4 := by rw [e5]; exact own_b_zero
        exact law_1 l s _ hw tables_1 q1 q2 q3 q4 q5 p6 s.heap s.heap.size (Old.start s) h h0 hd ((lw_eq _ _).mpr (f0).symm) ((lw_eq _ _).mpr (f1).symm) ((lw_eq _ _).mpr (f2).symm) ((lw_eq _ _).mpr (f3).symm) ((lw_eq _ _).mpr (f0)) ((lw_eq _ _).mpr (f1)) ((lw_eq _ _).mpr (f2)) ((lw_eq _ _).mpr (f3))
      have e5 : ¬ q5 = 0 := fun q => hd ((lw_eq _ _).mpr q)
      have ne5 : ∀ x : Int64, ¬ x + q5 = x := fun x q => e5 (by simpa using q)
      rcases (Decidable.em (((p6 &&& (15 : Int32)) &&& (1 : Int32)) = (0 : Int32))).symm with c0 | c0
      · exact law_2 l s _ hw tables_1 q1 q2 q3 q4 q5 p6 s.heap s.heap.size (Old.start s) h h0 hd (fun u => ne5 _ (((lw_eq _ _).mp u).trans (own_b_neg c0)).symm) (fun u => ne5 _ ((own_b_neg c0).symm.trans ((lw_eq _ _).mp u)))
      rcases (Decidable.em (((p6 &&& (15 : Int32)) &&& (2 : Int32)) = (0 : Int32))).symm with c1 | c1
      · exact law_3 l s _ hw tables_1 q1 q2 q3 q4 q5 p6 s.heap s.heap.size (Old.start s) h h0 hd ((lw_eq _ _).mpr (own_b_pos c0).symm) (fun u => ne5 _ (((lw_eq _ _).mp u).trans (own_b_neg c1)).symm) ((lw_eq _ _).mpr (own_b_pos c0)) (fun u => ne5 _ ((own_b_neg c1).symm.trans ((lw_eq _ _).mp u)))
      rcases (Decidable.em (((p6 &&& (15 : Int32)) &&& (4 : Int32)) = (0 : Int32))).symm with c2 | c2
      · exact law_4 l s _ hw tables_1 q1 q2 q3 q4 q5 p6 s.heap s.heap.size (Old.start s) h h0 hd ((lw_eq _ _).mpr (own_b_pos c0).symm) ((lw_eq _ _).mpr (own_b_pos c1).symm) (fun u => ne5 _ (((lw_eq _ _).mp u).trans (own_b_neg c2)).symm) ((lw_eq _ _).mpr (own_b_pos c0)) ((lw_eq _ _).mpr (own_b_pos c1)) (fun u => ne5 _ ((own_b_neg c2).symm.trans ((lw_eq _ _).mp u)))
      rcases (Decidable.em (((p6 &&& (15 : Int32)) &&& (8 : Int32)) = (0 : Int32))).symm with c3 | c3
      · exact law_5 l s _ hw tables_1 q1 q2 q3 q4 q5 p6 s.heap s.heap.size (Old.start s) h h0 hd ((lw_eq _ _).mpr (own_b_pos c0).symm) ((lw_eq _ _).mpr (own_b_pos c1).symm) ((lw_eq _ _).mpr (own_b_pos c2).symm) (fun u => ne5 _ (((lw_eq _ _).mp u).trans (own_b_neg c3)).symm) ((lw_eq _ _).mpr (own_b_pos c0)) ((lw_eq _ _).mpr (own_b_pos c1)) ((lw_eq _ _).mpr (own_b_pos c2)) (fun u => ne5 _ ((own_b_neg c3).symm.trans ((lw_eq _ _).mp u)))
      exfalso
      rcases hcs with u | u | u | u | u | u | u | u | u | u | u | u | u | u | u | u <;> (rw [u] at c0 c1 c2 c3 h0; revert c0 c1 c2 c3 h0; decide)
    · exact law_6 l s _ hw tables_1 q1 q2 q3 q4 q5 p6 s.heap s.heap.size (Old.start s) h
    · exact law_7 l s _ hw tables_1 q1 q2 q3 q4 q5 p6 w_cacheJ s.heap s.heap.size (Old.start s) h S_w_cacheJ C_w_cacheJ
    · exact law_8 l s _ hw tables_1 q1 q2 q3 q4 q5 p6 s.heap s.heap.size (Old.start s) h (sl _) (sl _) (sl _) (sl _)
  obtain ⟨n, o, h1, h2, h3, _, L, rfl, ⟨rfl, N⟩, hq⟩ := key p e ha hc hk s m _ below hf ((Spec.applies_iff_loose hf).mp happ).1 ⟨rfl, State.Warmed39.refl s, rfl⟩ trivial
  refine ⟨n, _, h1, h2, h3, hpost _ _ _ _ _ _ ⟨Cond.after_iff.mpr rfl, Cond.after_iff.mpr (eq_i res_at (Term.int_eval (1)) rfl), trivial⟩ ⟨hq.1, hq.2.1, (hq.2.2.sift fun y hy => Or.inr (N y hy)).mono (by decide) (by decide)⟩⟩
theorem main_1_1 : Claimed_1_1 := comes_1 fun _ _ _ _ _ _ h hF => ⟨h.1, hF⟩
theorem main_1_2 : Claimed_1_2 := comes_1 fun _ _ _ _ _ _ h hF => ⟨h.2.1, hF⟩
end Jvm.Pilot.@@N@@
namespace Jvm.Pilot.@@N@@
open Jvm Jvm.ClassFile Sem Op Lib Jvm.Free Jvm.Stand Jvm.Pilot.@@N@@.Jvm.D
/-! MADE BY PROGRAM (witnessworld.py) out of the Statement's table words and the real class files: 16 classes; the members and pool entries that the words name. The judged class is class 1, her method 1. -/
namespace start1
open Jvm.ClassFile
def u (s : String) : CpInfo := .utf8 (stringToUtf16 s)
/-- a pool by its gaps: so many unusable entries, then the entry; so many at the end -/
def gap : Nat → List CpInfo → List CpInfo
  | 0, r => r
  | n + 1, r => .unusable :: gap n r
def poolList (es : List (Nat × CpInfo)) (last : Nat) : List CpInfo := es.foldr (fun e r => gap e.1 (e.2 :: r)) (gap last [])
def pool (es : List (Nat × CpInfo)) (last : Nat) : Array CpInfo := ⟨poolList es last⟩
def fileOf (pool : Array CpInfo) (this : Nat) (attrs : Array Attribute := #[]) (ms : Array MethodInfo := #[]) (fl : Nat := 33) (sup : Nat := 0) (ifs : Array Nat := #[]) (fds : Array FieldInfo := #[]) : ClassFile where
  minorVersion := 0
  majorVersion := 65
  constantPool := pool
  accessFlags := fl
  thisClass := this
  superClass := sup
  interfaces := ifs
  fields := fds
  methods := ms
  attributes := attrs
def plain (name : String) (sup : Option ClassId) : Class where
  name := name
  kind := .ordinary
  loader := none
  accessFlags := 33
  super := sup
  interfaces := #[]
  cf := none
  fields := #[]
  methods := #[]
  instanceTypes := #[]
  staticTypes := #[]
  resolved := #[]
  callSites := []
  init := .initialized
  statics := none
  mirror := none

def pool0 : Array CpInfo := pool [(5, u "<init>"), (0, u "()V"), (1, .class_ 10), (1, u "java/lang/Object")] 113

def k0c0 : Code := { maxStack := 0, maxLocals := 1, code := object_method_1_code, exceptionTable := #[], attributes := #[] }
def k0m0 : Method := { name := "<init>", desc := "()V", sig := { parameters := [], returnType := none }, accessFlags := 1, code := some k0c0 }
/-- java/lang/Object -/
def k0 : Class := { plain "java/lang/Object" none with
  accessFlags := 33
  interfaces := #[]
  cf := some (fileOf pool0 8 #[] #[{ accessFlags := 1, nameIndex := 5, descriptorIndex := 6, attributes := #[] }] 33 0 #[] #[])
  fields := #[]
  methods := #[k0m0]
  instanceTypes := #[]
  staticTypes := #[]
  resolved := Array.replicate 124 none
  statics := none }

def pool1 : Array CpInfo := pool [(2, .class_ 4), (1, u "java/lang/Object"), (0, u "<init>"), (0, u "()V"), (0, .class_ 8), (0, u "com/example/bide/bide/QueueCounts"), (0, .methodref 7 10), (0, .nameAndType 5 11), (0, u "(JJJJ)V"), (0, .methodref 7 13), (0, .nameAndType 14 15), (0, u "equals"), (0, u "(Ljava/lang/Object;)Z"), (0, .methodref 17 18), (0, .class_ 19), (0, .nameAndType 20 21), (0, u "java/lang/Long"), (0, u "valueOf"), (0, u "(J)Ljava/lang/Long;"), (0, .class_ 23), (0, u "com/example/bide/bide/QueueCountsEqualsPinLaw"), (2, u "law"), (0, u "(JJJJJI)Z")] 3

def k1m0 : Method := { name := "<init>", desc := "()V", sig := { parameters := [], returnType := none }, accessFlags := 1, code := none }
def k1c1 : Code := { maxStack := 10, maxLocals := 24, code := code, exceptionTable := #[], attributes := #[] }
def k1m1 : Method := { name := "law", desc := "(JJJJJI)Z", sig := { parameters := [.long, .long, .long, .long, .long, .int], returnType := some .boolean }, accessFlags := 9, code := some k1c1 }
/-- com/example/bide/bide/QueueCountsEqualsPinLaw -/
def k1 : Class := { plain "com/example/bide/bide/QueueCountsEqualsPinLaw" (some 0) with
  accessFlags := 49
  interfaces := #[]
  cf := some (fileOf pool1 22 #[] #[{ accessFlags := 1, nameIndex := 5, descriptorIndex := 6, attributes := #[] }, { accessFlags := 9, nameIndex := 26, descriptorIndex := 27, attributes := #[] }] 49 2 #[] #[])
  fields := #[]
  methods := #[k1m0, k1m1]
  instanceTypes := #[]
  staticTypes := #[]
  resolved := Array.replicate 31 none
  statics := none }

def pool2 : Array CpInfo := pool [(1, .methodref 2 3), (0, .class_ 4), (0, .nameAndType 5 6), (0, u "java/lang/Object"), (0, u "<init>"), (0, u "()V"), (0, .fieldref 8 9), (0, .class_ 10), (0, .nameAndType 11 12), (0, u "com/example/bide/bide/QueueCounts"), (0, u "pending"), (0, u "J"), (0, .fieldref 8 14), (0, .nameAndType 15 12), (0, u "due"), (0, .fieldref 8 17), (0, .nameAndType 18 12), (0, u "leased"), (0, .fieldref 8 20), (0, .nameAndType 21 12), (0, u "dead"), (26, u "(JJJJ)V"), (3, u "equals"), (0, u "(Ljava/lang/Object;)Z")] 7

def k2c0 : Code := { maxStack := 3, maxLocals := 9, code := prog_3_method_1_code, exceptionTable := #[], attributes := #[] }
def k2m0 : Method := { name := "<init>", desc := "(JJJJ)V", sig := { parameters := [.long, .long, .long, .long], returnType := none }, accessFlags := 0, code := some k2c0 }
def k2c1 : Code := { maxStack := 4, maxLocals := 3, code := prog_3_method_6_code, exceptionTable := #[], attributes := #[] }
def k2m1 : Method := { name := "equals", desc := "(Ljava/lang/Object;)Z", sig := { parameters := [(.object "java/lang/Object")], returnType := some .boolean }, accessFlags := 1, code := some k2c1 }
/-- com/example/bide/bide/QueueCounts -/
def k2 : Class := { plain "com/example/bide/bide/QueueCounts" (some 0) with
  accessFlags := 49
  interfaces := #[]
  cf := some (fileOf pool2 8 #[] #[{ accessFlags := 0, nameIndex := 5, descriptorIndex := 48, attributes := #[] }, { accessFlags := 1, nameIndex := 52, descriptorIndex := 53, attributes := #[] }] 49 2 #[] #[{ accessFlags := 18, nameIndex := 11, descriptorIndex := 12, attributes := #[] }, { accessFlags := 18, nameIndex := 15, descriptorIndex := 12, attributes := #[] }, { accessFlags := 18, nameIndex := 18, descriptorIndex := 12, attributes := #[] }, { accessFlags := 18, nameIndex := 21, descriptorIndex := 12, attributes := #[] }])
  fields := #[{ name := "pending", type := .long, accessFlags := 18, slot := 0, constantValue := 0 }, { name := "due", type := .long, accessFlags := 18, slot := 1, constantValue := 0 }, { name := "leased", type := .long, accessFlags := 18, slot := 2, constantValue := 0 }, { name := "dead", type := .long, accessFlags := 18, slot := 3, constantValue := 0 }]
  methods := #[k2m0, k2m1]
  instanceTypes := #[.long, .long, .long, .long]
  staticTypes := #[]
  resolved := Array.replicate 61 none
  statics := none }

def pool3 : Array CpInfo := pool [(1, .class_ 2), (0, u "java/io/Serializable"), (0, .class_ 4), (0, u "java/lang/Object")] 2

/-- java/io/Serializable -/
def k3 : Class := { plain "java/io/Serializable" (some 0) with
  accessFlags := 1537
  interfaces := #[]
  cf := some (fileOf pool3 1 #[] #[] 1537 3 #[] #[])
  fields := #[]
  methods := #[]
  instanceTypes := #[]
  staticTypes := #[]
  resolved := Array.replicate 7 none
  statics := none }

def pool4 : Array CpInfo := pool [(1, .methodref 2 3), (0, .class_ 4), (0, .nameAndType 5 6), (0, u "java/lang/Object"), (0, u "<init>"), (0, u "()V"), (1, .class_ 10), (1, u "java/lang/Number"), (2, .class_ 14), (0, u "java/io/Serializable"), (0, u "serialVersionUID"), (0, u "J")] 20

def k4c0 : Code := { maxStack := 1, maxLocals := 1, code := jdk_18_method_1_code, exceptionTable := #[], attributes := #[] }
def k4m0 : Method := { name := "<init>", desc := "()V", sig := { parameters := [], returnType := none }, accessFlags := 1, code := some k4c0 }
/-- java/lang/Number -/
def k4 : Class := { plain "java/lang/Number" (some 0) with
  accessFlags := 1057
  interfaces := #[3]
  cf := some (fileOf pool4 8 #[] #[{ accessFlags := 1, nameIndex := 5, descriptorIndex := 6, attributes := #[] }] 1057 2 #[13] #[{ accessFlags := 26, nameIndex := 15, descriptorIndex := 16, attributes := #[] }])
  fields := #[{ name := "serialVersionUID", type := .long, accessFlags := 26, slot := 0, constantValue := 0 }]
  methods := #[k4m0]
  instanceTypes := #[]
  staticTypes := #[.long]
  resolved := Array.replicate 37 none
  statics := none }

def pool5 : Array CpInfo := pool [(1, .class_ 2), (0, u "java/lang/Comparable"), (0, .class_ 4), (0, u "java/lang/Object")] 7

/-- java/lang/Comparable -/
def k5 : Class := { plain "java/lang/Comparable" (some 0) with
  accessFlags := 1537
  interfaces := #[]
  cf := some (fileOf pool5 1 #[] #[] 1537 3 #[] #[])
  fields := #[]
  methods := #[]
  instanceTypes := #[]
  staticTypes := #[]
  resolved := Array.replicate 12 none
  statics := none }

def pool6 : Array CpInfo := pool [(1, .class_ 2), (0, u "java/lang/constant/Constable"), (0, .class_ 4), (0, u "java/lang/Object")] 6

/-- java/lang/constant/Constable -/
def k6 : Class := { plain "java/lang/constant/Constable" (some 0) with
  accessFlags := 1537
  interfaces := #[]
  cf := some (fileOf pool6 1 #[] #[] 1537 3 #[] #[])
  fields := #[]
  methods := #[]
  instanceTypes := #[]
  staticTypes := #[]
  resolved := Array.replicate 11 none
  statics := none }

def pool7 : Array CpInfo := pool [(1, .class_ 2), (0, u "java/lang/constant/ConstantDesc"), (0, .class_ 4), (0, u "java/lang/Object")] 32

/-- java/lang/constant/ConstantDesc -/
def k7 : Class := { plain "java/lang/constant/ConstantDesc" (some 0) with
  accessFlags := 1537
  interfaces := #[]
  cf := some (fileOf pool7 1 #[] #[] 1537 3 #[] #[])
  fields := #[]
  methods := #[]
  instanceTypes := #[]
  staticTypes := #[]
  resolved := Array.replicate 37 none
  statics := none }

def pool8 : Array CpInfo := pool [(1, .class_ 2), (0, u "java/lang/Long"), (55, .nameAndType 59 60), (0, u "<init>"), (0, u "()V"), (24, u "valueOf"), (143, u "(J)Ljava/lang/Long;"), (0, .long 18446744073709551488), (1, .long 127), (1, .fieldref 235 236), (0, .class_ 237), (0, .nameAndType 238 239), (0, u "java/lang/Long$LongCache"), (0, u "cache"), (0, u "[Ljava/lang/Long;"), (0, .methodref 1 241), (0, .nameAndType 59 242), (0, u "(J)V"), (27, .methodref 271 58), (0, .class_ 272), (0, u "java/lang/Number"), (0, .fieldref 1 274), (0, .nameAndType 275 276), (0, u "value"), (0, u "J"), (84, u "TYPE"), (0, u "Ljava/lang/Class;"), (0, .class_ 364), (0, u "java/lang/Comparable"), (0, .class_ 366), (0, u "java/lang/constant/Constable"), (0, .class_ 368), (0, u "java/lang/constant/ConstantDesc"), (0, u "MIN_VALUE"), (1, u "MAX_VALUE"), (4, u "SIZE"), (0, u "I"), (1, u "BYTES"), (1, u "serialVersionUID")] 142

def k8c0 : Code := { maxStack := 4, maxLocals := 3, code := jdk_35_method_24_code, exceptionTable := #[], attributes := #[] }
def k8m0 : Method := { name := "valueOf", desc := "(J)Ljava/lang/Long;", sig := { parameters := [.long], returnType := some (.object "java/lang/Long") }, accessFlags := 9, code := some k8c0 }
def k8c1 : Code := { maxStack := 3, maxLocals := 3, code := jdk_35_method_26_code, exceptionTable := #[], attributes := #[] }
def k8m1 : Method := { name := "<init>", desc := "(J)V", sig := { parameters := [.long], returnType := none }, accessFlags := 1, code := some k8c1 }
/-- java/lang/Long -/
def k8 : Class := { plain "java/lang/Long" (some 4) with
  accessFlags := 49
  interfaces := #[5, 6, 7]
  cf := some (fileOf pool8 1 #[.nestMembers #[235]] #[{ accessFlags := 9, nameIndex := 85, descriptorIndex := 229, attributes := #[] }, { accessFlags := 1, nameIndex := 59, descriptorIndex := 242, attributes := #[] }] 49 271 #[363, 365, 367] #[{ accessFlags := 25, nameIndex := 369, descriptorIndex := 276, attributes := #[] }, { accessFlags := 25, nameIndex := 371, descriptorIndex := 276, attributes := #[] }, { accessFlags := 25, nameIndex := 361, descriptorIndex := 362, attributes := #[] }, { accessFlags := 18, nameIndex := 275, descriptorIndex := 276, attributes := #[] }, { accessFlags := 25, nameIndex := 376, descriptorIndex := 377, attributes := #[] }, { accessFlags := 25, nameIndex := 379, descriptorIndex := 377, attributes := #[] }, { accessFlags := 26, nameIndex := 381, descriptorIndex := 276, attributes := #[] }])
  fields := #[{ name := "MIN_VALUE", type := .long, accessFlags := 25, slot := 0, constantValue := 0 }, { name := "MAX_VALUE", type := .long, accessFlags := 25, slot := 1, constantValue := 0 }, { name := "TYPE", type := (.object "java/lang/Class"), accessFlags := 25, slot := 2, constantValue := 0 }, { name := "value", type := .long, accessFlags := 18, slot := 0, constantValue := 0 }, { name := "SIZE", type := .int, accessFlags := 25, slot := 3, constantValue := 0 }, { name := "BYTES", type := .int, accessFlags := 25, slot := 4, constantValue := 0 }, { name := "serialVersionUID", type := .long, accessFlags := 26, slot := 5, constantValue := 0 }]
  methods := #[k8m0, k8m1]
  instanceTypes := #[.long]
  staticTypes := #[.long, .long, (.object "java/lang/Class"), .int, .int, .long]
  resolved := Array.replicate 524 none
  statics := none }

def pool9 : Array CpInfo := pool [(2, .class_ 4), (1, u "java/lang/Object"), (0, u "<init>"), (0, u "()V"), (0, .class_ 8), (0, u "java/lang/Long"), (7, .class_ 18), (1, u "java/lang/Long$LongCache"), (0, u "$assertionsDisabled"), (0, u "Z"), (8, u "archivedCache"), (0, u "[Ljava/lang/Long;"), (7, u "cache")] 24

def k9m0 : Method := { name := "<init>", desc := "()V", sig := { parameters := [], returnType := none }, accessFlags := 2, code := none }
/-- java/lang/Long$LongCache -/
def k9 : Class := { plain "java/lang/Long$LongCache" (some 0) with
  accessFlags := 48
  interfaces := #[]
  cf := some (fileOf pool9 16 #[.nestHost 7] #[{ accessFlags := 2, nameIndex := 5, descriptorIndex := 6, attributes := #[] }] 48 2 #[] #[{ accessFlags := 24, nameIndex := 38, descriptorIndex := 30, attributes := #[] }, { accessFlags := 8, nameIndex := 29, descriptorIndex := 30, attributes := #[] }, { accessFlags := 4120, nameIndex := 19, descriptorIndex := 20, attributes := #[] }])
  fields := #[{ name := "cache", type := (.array (.object "java/lang/Long")), accessFlags := 24, slot := 0, constantValue := 0 }, { name := "archivedCache", type := (.array (.object "java/lang/Long")), accessFlags := 8, slot := 1, constantValue := 0 }, { name := "$assertionsDisabled", type := .boolean, accessFlags := 4120, slot := 2, constantValue := 0 }]
  methods := #[k9m0]
  instanceTypes := #[]
  staticTypes := #[(.array (.object "java/lang/Long")), (.array (.object "java/lang/Long")), .boolean]
  resolved := Array.replicate 63 none
  statics := some 0 }

def pool10 : Array CpInfo := pool [(1, u "java/lang/Cloneable"), (0, .class_ 1), (0, u "java/lang/Object"), (0, .class_ 3)] 3

/-- java/lang/Cloneable -/
def k10 : Class := { plain "java/lang/Cloneable" (some 0) with
  accessFlags := 1537
  interfaces := #[]
  cf := some (fileOf pool10 2 #[] #[] 1537 4 #[] #[])
  fields := #[]
  methods := #[]
  instanceTypes := #[]
  staticTypes := #[]
  resolved := Array.replicate 8 none
  statics := none }

/-- the primitive byte -/
def k11 : Class := { plain "byte" none with kind := .primitive 'B', accessFlags := 0x411 }
/-- [B -/
def k12 : Class := { plain "[B" (some 0) with kind := .array 11 .byte, interfaces := #[10, 3], accessFlags := 1041 }

/-- the primitive int -/
def k13 : Class := { plain "int" none with kind := .primitive 'I', accessFlags := 0x411 }
/-- [I -/
def k14 : Class := { plain "[I" (some 0) with kind := .array 13 .int, interfaces := #[10, 3], accessFlags := 1041 }

/-- [Ljava/lang/Long; -/
def k15 : Class := { plain "[Ljava/lang/Long;" (some 0) with kind := .array 8 (.object "java/lang/Long"), interfaces := #[10, 3], accessFlags := 1041 }

def heap : Heap := #[{ cls := 9, slots := #[.ref 1, .null, .int 0], vm := .statics 9 },
  { cls := 15, slots := #[.ref 2, .ref 3, .ref 4, .ref 5, .ref 6, .ref 7, .ref 8, .ref 9, .ref 10, .ref 11, .ref 12, .ref 13, .ref 14, .ref 15, .ref 16, .ref 17, .ref 18, .ref 19, .ref 20, .ref 21, .ref 22, .ref 23, .ref 24, .ref 25, .ref 26, .ref 27, .ref 28, .ref 29, .ref 30, .ref 31, .ref 32, .ref 33, .ref 34, .ref 35, .ref 36, .ref 37, .ref 38, .ref 39, .ref 40, .ref 41, .ref 42, .ref 43, .ref 44, .ref 45, .ref 46, .ref 47, .ref 48, .ref 49, .ref 50, .ref 51, .ref 52, .ref 53, .ref 54, .ref 55, .ref 56, .ref 57, .ref 58, .ref 59, .ref 60, .ref 61, .ref 62, .ref 63, .ref 64, .ref 65, .ref 66, .ref 67, .ref 68, .ref 69, .ref 70, .ref 71, .ref 72, .ref 73, .ref 74, .ref 75, .ref 76, .ref 77, .ref 78, .ref 79, .ref 80, .ref 81, .ref 82, .ref 83, .ref 84, .ref 85, .ref 86, .ref 87, .ref 88, .ref 89, .ref 90, .ref 91, .ref 92, .ref 93, .ref 94, .ref 95, .ref 96, .ref 97, .ref 98, .ref 99, .ref 100, .ref 101, .ref 102, .ref 103, .ref 104, .ref 105, .ref 106, .ref 107, .ref 108, .ref 109, .ref 110, .ref 111, .ref 112, .ref 113, .ref 114, .ref 115, .ref 116, .ref 117, .ref 118, .ref 119, .ref 120, .ref 121, .ref 122, .ref 123, .ref 124, .ref 125, .ref 126, .ref 127, .ref 128, .ref 129, .ref 130, .ref 131, .ref 132, .ref 133, .ref 134, .ref 135, .ref 136, .ref 137, .ref 138, .ref 139, .ref 140, .ref 141, .ref 142, .ref 143, .ref 144, .ref 145, .ref 146, .ref 147, .ref 148, .ref 149, .ref 150, .ref 151, .ref 152, .ref 153, .ref 154, .ref 155, .ref 156, .ref 157, .ref 158, .ref 159, .ref 160, .ref 161, .ref 162, .ref 163, .ref 164, .ref 165, .ref 166, .ref 167, .ref 168, .ref 169, .ref 170, .ref 171, .ref 172, .ref 173, .ref 174, .ref 175, .ref 176, .ref 177, .ref 178, .ref 179, .ref 180, .ref 181, .ref 182, .ref 183, .ref 184, .ref 185, .ref 186, .ref 187, .ref 188, .ref 189, .ref 190, .ref 191, .ref 192, .ref 193, .ref 194, .ref 195, .ref 196, .ref 197, .ref 198, .ref 199, .ref 200, .ref 201, .ref 202, .ref 203, .ref 204, .ref 205, .ref 206, .ref 207, .ref 208, .ref 209, .ref 210, .ref 211, .ref 212, .ref 213, .ref 214, .ref 215, .ref 216, .ref 217, .ref 218, .ref 219, .ref 220, .ref 221, .ref 222, .ref 223, .ref 224, .ref 225, .ref 226, .ref 227, .ref 228, .ref 229, .ref 230, .ref 231, .ref 232, .ref 233, .ref 234, .ref 235, .ref 236, .ref 237, .ref 238, .ref 239, .ref 240, .ref 241, .ref 242, .ref 243, .ref 244, .ref 245, .ref 246, .ref 247, .ref 248, .ref 249, .ref 250, .ref 251, .ref 252, .ref 253, .ref 254, .ref 255, .ref 256, .ref 257], vm := .none },
  { cls := 8, slots := #[.long (-128)], vm := .none },
  { cls := 8, slots := #[.long (-127)], vm := .none },
  { cls := 8, slots := #[.long (-126)], vm := .none },
  { cls := 8, slots := #[.long (-125)], vm := .none },
  { cls := 8, slots := #[.long (-124)], vm := .none },
  { cls := 8, slots := #[.long (-123)], vm := .none },
  { cls := 8, slots := #[.long (-122)], vm := .none },
  { cls := 8, slots := #[.long (-121)], vm := .none },
  { cls := 8, slots := #[.long (-120)], vm := .none },
  { cls := 8, slots := #[.long (-119)], vm := .none },
  { cls := 8, slots := #[.long (-118)], vm := .none },
  { cls := 8, slots := #[.long (-117)], vm := .none },
  { cls := 8, slots := #[.long (-116)], vm := .none },
  { cls := 8, slots := #[.long (-115)], vm := .none },
  { cls := 8, slots := #[.long (-114)], vm := .none },
  { cls := 8, slots := #[.long (-113)], vm := .none },
  { cls := 8, slots := #[.long (-112)], vm := .none },
  { cls := 8, slots := #[.long (-111)], vm := .none },
  { cls := 8, slots := #[.long (-110)], vm := .none },
  { cls := 8, slots := #[.long (-109)], vm := .none },
  { cls := 8, slots := #[.long (-108)], vm := .none },
  { cls := 8, slots := #[.long (-107)], vm := .none },
  { cls := 8, slots := #[.long (-106)], vm := .none },
  { cls := 8, slots := #[.long (-105)], vm := .none },
  { cls := 8, slots := #[.long (-104)], vm := .none },
  { cls := 8, slots := #[.long (-103)], vm := .none },
  { cls := 8, slots := #[.long (-102)], vm := .none },
  { cls := 8, slots := #[.long (-101)], vm := .none },
  { cls := 8, slots := #[.long (-100)], vm := .none },
  { cls := 8, slots := #[.long (-99)], vm := .none },
  { cls := 8, slots := #[.long (-98)], vm := .none },
  { cls := 8, slots := #[.long (-97)], vm := .none },
  { cls := 8, slots := #[.long (-96)], vm := .none },
  { cls := 8, slots := #[.long (-95)], vm := .none },
  { cls := 8, slots := #[.long (-94)], vm := .none },
  { cls := 8, slots := #[.long (-93)], vm := .none },
  { cls := 8, slots := #[.long (-92)], vm := .none },
  { cls := 8, slots := #[.long (-91)], vm := .none },
  { cls := 8, slots := #[.long (-90)], vm := .none },
  { cls := 8, slots := #[.long (-89)], vm := .none },
  { cls := 8, slots := #[.long (-88)], vm := .none },
  { cls := 8, slots := #[.long (-87)], vm := .none },
  { cls := 8, slots := #[.long (-86)], vm := .none },
  { cls := 8, slots := #[.long (-85)], vm := .none },
  { cls := 8, slots := #[.long (-84)], vm := .none },
  { cls := 8, slots := #[.long (-83)], vm := .none },
  { cls := 8, slots := #[.long (-82)], vm := .none },
  { cls := 8, slots := #[.long (-81)], vm := .none },
  { cls := 8, slots := #[.long (-80)], vm := .none },
  { cls := 8, slots := #[.long (-79)], vm := .none },
  { cls := 8, slots := #[.long (-78)], vm := .none },
  { cls := 8, slots := #[.long (-77)], vm := .none },
  { cls := 8, slots := #[.long (-76)], vm := .none },
  { cls := 8, slots := #[.long (-75)], vm := .none },
  { cls := 8, slots := #[.long (-74)], vm := .none },
  { cls := 8, slots := #[.long (-73)], vm := .none },
  { cls := 8, slots := #[.long (-72)], vm := .none },
  { cls := 8, slots := #[.long (-71)], vm := .none },
  { cls := 8, slots := #[.long (-70)], vm := .none },
  { cls := 8, slots := #[.long (-69)], vm := .none },
  { cls := 8, slots := #[.long (-68)], vm := .none },
  { cls := 8, slots := #[.long (-67)], vm := .none },
  { cls := 8, slots := #[.long (-66)], vm := .none },
  { cls := 8, slots := #[.long (-65)], vm := .none },
  { cls := 8, slots := #[.long (-64)], vm := .none },
  { cls := 8, slots := #[.long (-63)], vm := .none },
  { cls := 8, slots := #[.long (-62)], vm := .none },
  { cls := 8, slots := #[.long (-61)], vm := .none },
  { cls := 8, slots := #[.long (-60)], vm := .none },
  { cls := 8, slots := #[.long (-59)], vm := .none },
  { cls := 8, slots := #[.long (-58)], vm := .none },
  { cls := 8, slots := #[.long (-57)], vm := .none },
  { cls := 8, slots := #[.long (-56)], vm := .none },
  { cls := 8, slots := #[.long (-55)], vm := .none },
  { cls := 8, slots := #[.long (-54)], vm := .none },
  { cls := 8, slots := #[.long (-53)], vm := .none },
  { cls := 8, slots := #[.long (-52)], vm := .none },
  { cls := 8, slots := #[.long (-51)], vm := .none },
  { cls := 8, slots := #[.long (-50)], vm := .none },
  { cls := 8, slots := #[.long (-49)], vm := .none },
  { cls := 8, slots := #[.long (-48)], vm := .none },
  { cls := 8, slots := #[.long (-47)], vm := .none },
  { cls := 8, slots := #[.long (-46)], vm := .none },
  { cls := 8, slots := #[.long (-45)], vm := .none },
  { cls := 8, slots := #[.long (-44)], vm := .none },
  { cls := 8, slots := #[.long (-43)], vm := .none },
  { cls := 8, slots := #[.long (-42)], vm := .none },
  { cls := 8, slots := #[.long (-41)], vm := .none },
  { cls := 8, slots := #[.long (-40)], vm := .none },
  { cls := 8, slots := #[.long (-39)], vm := .none },
  { cls := 8, slots := #[.long (-38)], vm := .none },
  { cls := 8, slots := #[.long (-37)], vm := .none },
  { cls := 8, slots := #[.long (-36)], vm := .none },
  { cls := 8, slots := #[.long (-35)], vm := .none },
  { cls := 8, slots := #[.long (-34)], vm := .none },
  { cls := 8, slots := #[.long (-33)], vm := .none },
  { cls := 8, slots := #[.long (-32)], vm := .none },
  { cls := 8, slots := #[.long (-31)], vm := .none },
  { cls := 8, slots := #[.long (-30)], vm := .none },
  { cls := 8, slots := #[.long (-29)], vm := .none },
  { cls := 8, slots := #[.long (-28)], vm := .none },
  { cls := 8, slots := #[.long (-27)], vm := .none },
  { cls := 8, slots := #[.long (-26)], vm := .none },
  { cls := 8, slots := #[.long (-25)], vm := .none },
  { cls := 8, slots := #[.long (-24)], vm := .none },
  { cls := 8, slots := #[.long (-23)], vm := .none },
  { cls := 8, slots := #[.long (-22)], vm := .none },
  { cls := 8, slots := #[.long (-21)], vm := .none },
  { cls := 8, slots := #[.long (-20)], vm := .none },
  { cls := 8, slots := #[.long (-19)], vm := .none },
  { cls := 8, slots := #[.long (-18)], vm := .none },
  { cls := 8, slots := #[.long (-17)], vm := .none },
  { cls := 8, slots := #[.long (-16)], vm := .none },
  { cls := 8, slots := #[.long (-15)], vm := .none },
  { cls := 8, slots := #[.long (-14)], vm := .none },
  { cls := 8, slots := #[.long (-13)], vm := .none },
  { cls := 8, slots := #[.long (-12)], vm := .none },
  { cls := 8, slots := #[.long (-11)], vm := .none },
  { cls := 8, slots := #[.long (-10)], vm := .none },
  { cls := 8, slots := #[.long (-9)], vm := .none },
  { cls := 8, slots := #[.long (-8)], vm := .none },
  { cls := 8, slots := #[.long (-7)], vm := .none },
  { cls := 8, slots := #[.long (-6)], vm := .none },
  { cls := 8, slots := #[.long (-5)], vm := .none },
  { cls := 8, slots := #[.long (-4)], vm := .none },
  { cls := 8, slots := #[.long (-3)], vm := .none },
  { cls := 8, slots := #[.long (-2)], vm := .none },
  { cls := 8, slots := #[.long (-1)], vm := .none },
  { cls := 8, slots := #[.long 0], vm := .none },
  { cls := 8, slots := #[.long 1], vm := .none },
  { cls := 8, slots := #[.long 2], vm := .none },
  { cls := 8, slots := #[.long 3], vm := .none },
  { cls := 8, slots := #[.long 4], vm := .none },
  { cls := 8, slots := #[.long 5], vm := .none },
  { cls := 8, slots := #[.long 6], vm := .none },
  { cls := 8, slots := #[.long 7], vm := .none },
  { cls := 8, slots := #[.long 8], vm := .none },
  { cls := 8, slots := #[.long 9], vm := .none },
  { cls := 8, slots := #[.long 10], vm := .none },
  { cls := 8, slots := #[.long 11], vm := .none },
  { cls := 8, slots := #[.long 12], vm := .none },
  { cls := 8, slots := #[.long 13], vm := .none },
  { cls := 8, slots := #[.long 14], vm := .none },
  { cls := 8, slots := #[.long 15], vm := .none },
  { cls := 8, slots := #[.long 16], vm := .none },
  { cls := 8, slots := #[.long 17], vm := .none },
  { cls := 8, slots := #[.long 18], vm := .none },
  { cls := 8, slots := #[.long 19], vm := .none },
  { cls := 8, slots := #[.long 20], vm := .none },
  { cls := 8, slots := #[.long 21], vm := .none },
  { cls := 8, slots := #[.long 22], vm := .none },
  { cls := 8, slots := #[.long 23], vm := .none },
  { cls := 8, slots := #[.long 24], vm := .none },
  { cls := 8, slots := #[.long 25], vm := .none },
  { cls := 8, slots := #[.long 26], vm := .none },
  { cls := 8, slots := #[.long 27], vm := .none },
  { cls := 8, slots := #[.long 28], vm := .none },
  { cls := 8, slots := #[.long 29], vm := .none },
  { cls := 8, slots := #[.long 30], vm := .none },
  { cls := 8, slots := #[.long 31], vm := .none },
  { cls := 8, slots := #[.long 32], vm := .none },
  { cls := 8, slots := #[.long 33], vm := .none },
  { cls := 8, slots := #[.long 34], vm := .none },
  { cls := 8, slots := #[.long 35], vm := .none },
  { cls := 8, slots := #[.long 36], vm := .none },
  { cls := 8, slots := #[.long 37], vm := .none },
  { cls := 8, slots := #[.long 38], vm := .none },
  { cls := 8, slots := #[.long 39], vm := .none },
  { cls := 8, slots := #[.long 40], vm := .none },
  { cls := 8, slots := #[.long 41], vm := .none },
  { cls := 8, slots := #[.long 42], vm := .none },
  { cls := 8, slots := #[.long 43], vm := .none },
  { cls := 8, slots := #[.long 44], vm := .none },
  { cls := 8, slots := #[.long 45], vm := .none },
  { cls := 8, slots := #[.long 46], vm := .none },
  { cls := 8, slots := #[.long 47], vm := .none },
  { cls := 8, slots := #[.long 48], vm := .none },
  { cls := 8, slots := #[.long 49], vm := .none },
  { cls := 8, slots := #[.long 50], vm := .none },
  { cls := 8, slots := #[.long 51], vm := .none },
  { cls := 8, slots := #[.long 52], vm := .none },
  { cls := 8, slots := #[.long 53], vm := .none },
  { cls := 8, slots := #[.long 54], vm := .none },
  { cls := 8, slots := #[.long 55], vm := .none },
  { cls := 8, slots := #[.long 56], vm := .none },
  { cls := 8, slots := #[.long 57], vm := .none },
  { cls := 8, slots := #[.long 58], vm := .none },
  { cls := 8, slots := #[.long 59], vm := .none },
  { cls := 8, slots := #[.long 60], vm := .none },
  { cls := 8, slots := #[.long 61], vm := .none },
  { cls := 8, slots := #[.long 62], vm := .none },
  { cls := 8, slots := #[.long 63], vm := .none },
  { cls := 8, slots := #[.long 64], vm := .none },
  { cls := 8, slots := #[.long 65], vm := .none },
  { cls := 8, slots := #[.long 66], vm := .none },
  { cls := 8, slots := #[.long 67], vm := .none },
  { cls := 8, slots := #[.long 68], vm := .none },
  { cls := 8, slots := #[.long 69], vm := .none },
  { cls := 8, slots := #[.long 70], vm := .none },
  { cls := 8, slots := #[.long 71], vm := .none },
  { cls := 8, slots := #[.long 72], vm := .none },
  { cls := 8, slots := #[.long 73], vm := .none },
  { cls := 8, slots := #[.long 74], vm := .none },
  { cls := 8, slots := #[.long 75], vm := .none },
  { cls := 8, slots := #[.long 76], vm := .none },
  { cls := 8, slots := #[.long 77], vm := .none },
  { cls := 8, slots := #[.long 78], vm := .none },
  { cls := 8, slots := #[.long 79], vm := .none },
  { cls := 8, slots := #[.long 80], vm := .none },
  { cls := 8, slots := #[.long 81], vm := .none },
  { cls := 8, slots := #[.long 82], vm := .none },
  { cls := 8, slots := #[.long 83], vm := .none },
  { cls := 8, slots := #[.long 84], vm := .none },
  { cls := 8, slots := #[.long 85], vm := .none },
  { cls := 8, slots := #[.long 86], vm := .none },
  { cls := 8, slots := #[.long 87], vm := .none },
  { cls := 8, slots := #[.long 88], vm := .none },
  { cls := 8, slots := #[.long 89], vm := .none },
  { cls := 8, slots := #[.long 90], vm := .none },
  { cls := 8, slots := #[.long 91], vm := .none },
  { cls := 8, slots := #[.long 92], vm := .none },
  { cls := 8, slots := #[.long 93], vm := .none },
  { cls := 8, slots := #[.long 94], vm := .none },
  { cls := 8, slots := #[.long 95], vm := .none },
  { cls := 8, slots := #[.long 96], vm := .none },
  { cls := 8, slots := #[.long 97], vm := .none },
  { cls := 8, slots := #[.long 98], vm := .none },
  { cls := 8, slots := #[.long 99], vm := .none },
  { cls := 8, slots := #[.long 100], vm := .none },
  { cls := 8, slots := #[.long 101], vm := .none },
  { cls := 8, slots := #[.long 102], vm := .none },
  { cls := 8, slots := #[.long 103], vm := .none },
  { cls := 8, slots := #[.long 104], vm := .none },
  { cls := 8, slots := #[.long 105], vm := .none },
  { cls := 8, slots := #[.long 106], vm := .none },
  { cls := 8, slots := #[.long 107], vm := .none },
  { cls := 8, slots := #[.long 108], vm := .none },
  { cls := 8, slots := #[.long 109], vm := .none },
  { cls := 8, slots := #[.long 110], vm := .none },
  { cls := 8, slots := #[.long 111], vm := .none },
  { cls := 8, slots := #[.long 112], vm := .none },
  { cls := 8, slots := #[.long 113], vm := .none },
  { cls := 8, slots := #[.long 114], vm := .none },
  { cls := 8, slots := #[.long 115], vm := .none },
  { cls := 8, slots := #[.long 116], vm := .none },
  { cls := 8, slots := #[.long 117], vm := .none },
  { cls := 8, slots := #[.long 118], vm := .none },
  { cls := 8, slots := #[.long 119], vm := .none },
  { cls := 8, slots := #[.long 120], vm := .none },
  { cls := 8, slots := #[.long 121], vm := .none },
  { cls := 8, slots := #[.long 122], vm := .none },
  { cls := 8, slots := #[.long 123], vm := .none },
  { cls := 8, slots := #[.long 124], vm := .none },
  { cls := 8, slots := #[.long 125], vm := .none },
  { cls := 8, slots := #[.long 126], vm := .none },
  { cls := 8, slots := #[.long 127], vm := .none }]
def classes : Array Class := #[k0, k1, k2, k3, k4, k5, k6, k7, k8, k9, k10, k11, k12, k13, k14, k15]
def interned : List (Array UInt16 × Addr) := []
def slotsUsed : Nat := 515
def theMethod : MethodId := ⟨1, 1⟩
def args0 : Array Value := #[.long 5, .long 6, .long 7, .long 8, .long 9, .int 3]
def aboutOver (below : List Frame) : State where
  vm := { classes := classes, interned := interned.toArray }
  heap := heap
  slotsUsed := slotsUsed
  threads := #[{ frames := .invoking theMethod args0 :: below }]
def below0 : List Frame := [.native { method := ⟨0, 0⟩, args := #[] }]
def about1 : State := aboutOver below0
def p0 : Program := .bare "" "" ""
def e0 : Env := launch0.env 0 0 0
theorem w_frames : about1.frames = Frame.invoking theMethod args0 :: below0 := rfl
set_option maxRecDepth 65536 in
theorem w_args : argsFit about1.vm theMethod args0 = true := by decide +kernel
set_option maxRecDepth 65536 in
theorem w_heap : heapFits about1 = true := by decide +kernel
set_option maxRecDepth 65536 in
theorem w_runnable : about1.curStatus? = some .runnable := by decide +kernel
set_option maxRecDepth 65536 in
theorem w_alone : about1.alone = true := by decide +kernel
set_option maxRecDepth 65536 in
theorem w_named : about1.methodNamed? x = some theMethod := by decide +kernel
set_option maxRecDepth 65536 in
theorem w_hears : about1.hears theMethod below0 = true := by decide +kernel
set_option maxRecDepth 65536 in
theorem w_ripe : about1.ripe theMethod args0 below0 = true := by decide +kernel
theorem w_running : about1.status = .running := rfl
set_option maxRecDepth 65536 in
theorem w_room : about1.hasRoom e0.platform room_1 = true :=
  launch0.hasRoom_least _ room_1 (by decide +kernel) (by decide +kernel) (by decide +kernel) (by decide +kernel) (by decide +kernel) (by decide +kernel)
theorem allAtoms_all (ts : List Jvm.Cond) (a : Array Jvm.Value) (st : Jvm.State) : (allAtoms ts).before a st = ts.all (fun c => c.before a st) := by
  induction ts with
  | nil => rfl
  | cons c t ih =>
    show (Jvm.Cond.and c (allAtoms t)).before a st = _
    rw [Jvm.Cond.before_and, ih, List.all_cons]
def words1 : List Jvm.Cond := Jvm.Cond.code x code maxLocals ret :: tables_1
/-- a 'code' word, met by the world's own term for the bytes: nothing is compared byte by byte -/
theorem code_word {y : MethodName} {bytes : ByteArray} {mx : Nat} {rt : Option FieldType} {a : Array Value} {s : State} {m : MethodId} {meth : Method} {c : Code} (h1 : s.methodNamed? y = some m) (h2 : s.vm.method? m = some meth) (h3 : meth.code = some c) (h4 : c.code = bytes)
    (h5 : (c.maxLocals == mx && c.exceptionTable.isEmpty && decide (c.maxStack ≤ mostOperands) && decide (meth.sig.returnType = rt) && !meth.locks && decide (parseMethodDescriptor y.desc = some meth.sig)) = true) : (Jvm.Cond.code y bytes mx rt).before a s = true := by
  simp only [Bool.and_eq_true, beq_iff_eq, Bool.not_eq_true', decide_eq_true_eq] at h5
  obtain ⟨⟨⟨⟨⟨g1, g2⟩, g3⟩, g4⟩, g5⟩, g6⟩ := h5
  simp [Cond.before, Cond.holds, Cond.value, h1, h2, h3, h4, g1, g2, g3, g4, g5, g6]
def isCode : Jvm.Cond → Bool
  | .code _ _ _ _ => true
  | _ => false
theorem all_split {L : List Jvm.Cond} {P : Jvm.Cond → Bool} (h1 : L.all (fun c => isCode c || P c) = true) (h2 : ∀ c ∈ L.filter isCode, P c = true) : L.all P = true := by
  refine List.all_eq_true.mpr fun c hc => ?_
  have h := List.all_eq_true.mp h1 c hc
  rcases Bool.eq_false_or_eq_true (isCode c) with hi | hi
  · exact h2 c (List.mem_filter.mpr ⟨hc, hi⟩)
  · simpa [hi] using h
set_option maxRecDepth 65536 in
theorem w_c0 : (Jvm.Cond.code x code maxLocals ret).before args0 about1 = true := code_word (m := ⟨1, 1⟩) (meth := k1m1) (c := k1c1) (by decide +kernel) rfl rfl rfl (by decide +kernel)
set_option maxRecDepth 65536 in
theorem w_c1 : (Jvm.Cond.code ({ cls := "com/example/bide/bide/QueueCounts", name := "<init>", desc := "(JJJJ)V" } : Jvm.MethodName) prog_3_method_1_code (9 : Nat) (Option.none : Option Jvm.ClassFile.FieldType)).before args0 about1 = true := code_word (m := ⟨2, 0⟩) (meth := k2m0) (c := k2c0) (by decide +kernel) rfl rfl rfl (by decide +kernel)
set_option maxRecDepth 65536 in
theorem w_c2 : (Jvm.Cond.code ({ cls := "java/lang/Object", name := "<init>", desc := "()V" } : Jvm.MethodName) object_method_1_code (1 : Nat) (Option.none : Option Jvm.ClassFile.FieldType)).before args0 about1 = true := code_word (m := ⟨0, 0⟩) (meth := k0m0) (c := k0c0) (by decide +kernel) rfl rfl rfl (by decide +kernel)
set_option maxRecDepth 65536 in
theorem w_c3 : (Jvm.Cond.code ({ cls := "com/example/bide/bide/QueueCounts", name := "equals", desc := "(Ljava/lang/Object;)Z" } : Jvm.MethodName) prog_3_method_6_code (3 : Nat) (Option.some Jvm.ClassFile.FieldType.boolean)).before args0 about1 = true := code_word (m := ⟨2, 1⟩) (meth := k2m1) (c := k2c1) (by decide +kernel) rfl rfl rfl (by decide +kernel)
set_option maxRecDepth 65536 in
theorem w_c4 : (Jvm.Cond.code ({ cls := "java/lang/Long", name := "valueOf", desc := "(J)Ljava/lang/Long;" } : Jvm.MethodName) jdk_35_method_24_code (3 : Nat) (Option.some (Jvm.ClassFile.FieldType.object "java/lang/Long"))).before args0 about1 = true := code_word (m := ⟨8, 0⟩) (meth := k8m0) (c := k8c0) (by decide +kernel) rfl rfl rfl (by decide +kernel)
set_option maxRecDepth 65536 in
theorem w_c5 : (Jvm.Cond.code ({ cls := "java/lang/Long", name := "<init>", desc := "(J)V" } : Jvm.MethodName) jdk_35_method_26_code (3 : Nat) (Option.none : Option Jvm.ClassFile.FieldType)).before args0 about1 = true := code_word (m := ⟨8, 1⟩) (meth := k8m1) (c := k8c1) (by decide +kernel) rfl rfl rfl (by decide +kernel)
set_option maxRecDepth 65536 in
theorem w_c6 : (Jvm.Cond.code ({ cls := "java/lang/Number", name := "<init>", desc := "()V" } : Jvm.MethodName) jdk_18_method_1_code (1 : Nat) (Option.none : Option Jvm.ClassFile.FieldType)).before args0 about1 = true := code_word (m := ⟨4, 0⟩) (meth := k4m0) (c := k4c0) (by decide +kernel) rfl rfl rfl (by decide +kernel)
def codes1 : List Jvm.Cond := [Jvm.Cond.code x code maxLocals ret, Jvm.Cond.code ({ cls := "com/example/bide/bide/QueueCounts", name := "<init>", desc := "(JJJJ)V" } : Jvm.MethodName) prog_3_method_1_code (9 : Nat) (Option.none : Option Jvm.ClassFile.FieldType), Jvm.Cond.code ({ cls := "java/lang/Object", name := "<init>", desc := "()V" } : Jvm.MethodName) object_method_1_code (1 : Nat) (Option.none : Option Jvm.ClassFile.FieldType), Jvm.Cond.code ({ cls := "com/example/bide/bide/QueueCounts", name := "equals", desc := "(Ljava/lang/Object;)Z" } : Jvm.MethodName) prog_3_method_6_code (3 : Nat) (Option.some Jvm.ClassFile.FieldType.boolean), Jvm.Cond.code ({ cls := "java/lang/Long", name := "valueOf", desc := "(J)Ljava/lang/Long;" } : Jvm.MethodName) jdk_35_method_24_code (3 : Nat) (Option.some (Jvm.ClassFile.FieldType.object "java/lang/Long")), Jvm.Cond.code ({ cls := "java/lang/Long", name := "<init>", desc := "(J)V" } : Jvm.MethodName) jdk_35_method_26_code (3 : Nat) (Option.none : Option Jvm.ClassFile.FieldType), Jvm.Cond.code ({ cls := "java/lang/Number", name := "<init>", desc := "()V" } : Jvm.MethodName) jdk_18_method_1_code (1 : Nat) (Option.none : Option Jvm.ClassFile.FieldType)]
set_option maxRecDepth 65536 in
theorem codes_eq : words1.filter isCode = codes1 := rfl
theorem w_codes : ∀ c ∈ words1.filter isCode, c.before args0 about1 = true := by
  rw [codes_eq]
  intro c hc
  simp only [codes1, List.mem_cons, List.not_mem_nil, or_false] at hc
  rcases hc with rfl | rfl | rfl | rfl | rfl | rfl | rfl
  · exact w_c0
  · exact w_c1
  · exact w_c2
  · exact w_c3
  · exact w_c4
  · exact w_c5
  · exact w_c6
set_option maxRecDepth 65536 in
theorem w_t1 : (words1.take 24).all (fun c => isCode c || c.before args0 about1) = true := by decide +kernel
set_option maxRecDepth 65536 in
theorem w_t2 : ((words1.drop 24).take 24).all (fun c => isCode c || c.before args0 about1) = true := by decide +kernel
set_option maxRecDepth 65536 in
theorem w_t3 : ((words1.drop 24).drop 24).all (fun c => isCode c || c.before args0 about1) = true := by decide +kernel
theorem w_tables : (allAtoms (Jvm.Cond.code x code maxLocals ret :: tables_1)).before args0 about1 = true := by
  rw [allAtoms_all]
  show words1.all (fun c => c.before args0 about1) = true
  refine all_split ?_ w_codes
  rw [← List.take_append_drop 24 words1, List.all_append, w_t1, ← List.take_append_drop 24 (words1.drop 24), List.all_append, w_t2, w_t3]
  rfl
set_option maxRecDepth 65536 in
theorem w_rest : rest_1_c.before args0 about1 = true := by decide +kernel
set_option maxRecDepth 65536 in
theorem w_case : (Jvm.Cond.and given_1 narrow_1).before args0 about1 = true := by decide +kernel
theorem w_applies : (headSpec (Jvm.Cond.code x code maxLocals ret :: tables_1) room_1).applies x e0.platform about1 = true :=
  (Spec.applies_iff w_frames).mpr ⟨w_running, w_runnable, w_alone, w_named, w_hears, w_ripe, w_room, w_tables⟩
theorem atStart : AtStart classFile x code maxLocals ret World_1 tables_1 room_1 Calls_1 rest_1 Pre_1 launch0 p0 e0 about1 theMethod args0 below0 :=
  ⟨lists_1, trivial, launch0.admits_env _ _ _, launch0.least_env, fairChoices_fair.cas, fairChoices_fair.clock, w_frames, w_args, w_heap, w_applies, trivial, w_rest, w_case⟩
end start1
theorem witness_1 : WitnessClaimed_1 := ⟨start1.p0, start1.e0, start1.about1, start1.theMethod, start1.args0, start1.below0, start1.atStart⟩
end Jvm.Pilot.@@N@@
