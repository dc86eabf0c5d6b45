import JvmDerived
import JvmDerived.Pilot.@@N@@Statement
import JvmDerived.Pilot.@@N@@Code
set_option linter.unusedVariables false
set_option linter.unusedSimpArgs false
namespace Jvm.RoadKit
open Sem ClassFile Op Lib Jvm.Stand Jvm.Free Jvm.LawKit
section New
variable {p : Program} {l : Launch} {e : Env} {R : Room} {s : State} {m : MethodId} {args : Array Value} {below : List Frame} {meth : Method} {c : Code} {T : State} {locs : List Loc} {cells slots : Nat}
theorem retI (X : Stand p l e R s m args below meth c T locs cells slots) (hx : p.tables.exec = Jvm.exec) {pc : Nat} {Ls : Array Slot} {z : Int32} {rest : List Value} (hret : meth.sig.returnType = some .int) (hd : decode c.code pc = .ok (.ireturn, 1)) {fs : List Frame}
    (hl : ∀ (f : JFrame) (acts : List Action), f.method = m → f.locked = none → f.entered = [] → (doReturn e (T.setTop f) acts (some (.int z))).1 = T.setFrames fs) : Steps p.tables e below (T.setTop (mkF m pc Ls (.int z :: rest))) (T.setFrames fs) :=
  retOut X hx hret rfl (Or.inl ⟨rfl, Or.inl rfl, z, rfl⟩) hd hl
theorem retL (X : Stand p l e R s m args below meth c T locs cells slots) (hx : p.tables.exec = Jvm.exec) {pc : Nat} {Ls : Array Slot} {z : Int64} {rest : List Value} (hret : meth.sig.returnType = some .long) (hd : decode c.code pc = .ok (.lreturn, 1)) {fs : List Frame}
    (hl : ∀ (f : JFrame) (acts : List Action), f.method = m → f.locked = none → f.entered = [] → (doReturn e (T.setTop f) acts (some (.long z))).1 = T.setFrames fs) : Steps p.tables e below (T.setTop (mkF m pc Ls (.long z :: rest))) (T.setFrames fs) :=
  retOut X hx hret rfl (Or.inr (Or.inl ⟨rfl, rfl, z, rfl⟩)) hd hl
theorem retA (X : Stand p l e R s m args below meth c T locs cells slots) (hx : p.tables.exec = Jvm.exec) {pc : Nat} {Ls : Array Slot} {t : FieldType} {w : Value} {rest : List Value} (hret : meth.sig.returnType = some t) (ht : t.isReference = true) (hw : w.isRef = true) (hn : narrow t w = w) (hd : decode c.code pc = .ok (.areturn, 1)) {fs : List Frame}
    (hl : ∀ (f : JFrame) (acts : List Action), f.method = m → f.locked = none → f.entered = [] → (doReturn e (T.setTop f) acts (some w)).1 = T.setFrames fs) : Steps p.tables e below (T.setTop (mkF m pc Ls (w :: rest))) (T.setFrames fs) :=
  retOut X hx hret hn (Or.inr (Or.inr (Or.inr (Or.inr ⟨rfl, ht, hw⟩)))) hd hl
end New
theorem own_fld {args : Array Value} {s : State} {t : Term} {C n d : String} {k : Int32} {w : Addr} (h : (Cond.eq (Term.field t C n d) (Term.int k)).value args s none s [] = some true) (ev : t.eval args s none [] s = some (.ref w)) : Fld s s.heap w C n d (.int k) := by
  have e1 : (Term.field t C n d).eval args s none [] s = s.fieldOf? w C n d := fld_at ev
  have e2 : (Term.int k).eval args s none [] s = some (.int k) := rfl
  obtain ⟨x, y, ex, ey, k1, k2⟩ := cmp_v (Or.inl h)
  cases e2.symm.trans ey
  obtain ⟨z, rfl⟩ := k2
  have q : z = k := gotT (P := z = k) (Cond.eq_ints ex e2) h
  subst q
  exact Fld.start (e1.symm.trans ex)
end Jvm.RoadKit
namespace Jvm.Pilot.@@N@@
open Jvm Jvm.ClassFile Sem Op Lib Jvm.Free Jvm.Stand Jvm.LawKit Jvm.RoadKit Bundle Jvm.Pilot.@@N@@.Jvm.D
def own_QP (r : Option Value) (n0 : Nat) (h0 : Heap) (v : Option Value) (h : Heap) (L : List Loc) : Prop := v = r ∧ Fr n0 L ∧ h = h0
def own_Q1 (n0 : Nat) (v : Option Value) (h : Heap) (L : List Loc) : Prop := v = some (.int (1 : Int32)) ∧ Fr n0 L

theorem d1_0 : decode prog_14_method_5_code 0 = .ok (.iload_n 0, 1) := by decide +kernel
theorem d1_1 : decode prog_14_method_5_code 1 = .ok (.getstatic 16, 3) := by decide +kernel
theorem d1_4 : decode prog_14_method_5_code 4 = .ok (.invokevirtual 229, 3) := by decide +kernel
theorem d1_7 : decode prog_14_method_5_code 7 = .ok (.if_icmp .lt 27, 3) := by decide +kernel
theorem d1_10 : decode prog_14_method_5_code 10 = .ok (.iload_n 0, 1) := by decide +kernel
theorem d1_11 : decode prog_14_method_5_code 11 = .ok (.getstatic 28, 3) := by decide +kernel
theorem d1_14 : decode prog_14_method_5_code 14 = .ok (.invokevirtual 229, 3) := by decide +kernel
theorem d1_17 : decode prog_14_method_5_code 17 = .ok (.if_icmp .eq 17, 3) := by decide +kernel
theorem d1_20 : decode prog_14_method_5_code 20 = .ok (.iload_n 0, 1) := by decide +kernel
theorem d1_21 : decode prog_14_method_5_code 21 = .ok (.getstatic 58, 3) := by decide +kernel
theorem d1_24 : decode prog_14_method_5_code 24 = .ok (.invokevirtual 229, 3) := by decide +kernel
theorem d1_27 : decode prog_14_method_5_code 27 = .ok (.if_icmp .eq 7, 3) := by decide +kernel
theorem d1_30 : decode prog_14_method_5_code 30 = .ok (.iconst 1, 1) := by decide +kernel
theorem d1_31 : decode prog_14_method_5_code 31 = .ok (.goto 4, 3) := by decide +kernel
theorem d1_34 : decode prog_14_method_5_code 34 = .ok (.iconst 0, 1) := by decide +kernel
theorem d1_35 : decode prog_14_method_5_code 35 = .ok (.ireturn, 1) := by decide +kernel
theorem d2_0 : decode prog_14_method_6_code 0 = .ok (.aload_n 0, 1) := by decide +kernel
theorem d2_1 : decode prog_14_method_6_code 1 = .ok (.getfield 200, 3) := by decide +kernel
theorem d2_4 : decode prog_14_method_6_code 4 = .ok (.ireturn, 1) := by decide +kernel
theorem pn_0 : plainName "com/example/calm_current/calmcurrent/http/HttpStatus" = true := by first | (simp [plainName, overriddenIn]; done) | decide +kernel
theorem ef_2_R (m : MethodId) (x0 : Addr) : entryFrame m #[(.ref x0)] 1 = mkF m 0 #[.val (.ref x0)] [] := by first | (simp [entryFrame, mkF, argsToLocals, Value.category]; done) | rfl
theorem pd_2 : parseMethodDescriptor "()I" = some ⟨[], some .int⟩ := by decide +kernel
theorem ef_1_I (m : MethodId) (x0 : Int32) : entryFrame m #[(.int x0)] 1 = mkF m 0 #[.val (.int x0)] [] := by first | (simp [entryFrame, mkF, argsToLocals, Value.category]; done) | rfl
theorem pd_4 : parseMethodDescriptor "(I)Z" = some ⟨[.int], some .boolean⟩ := by decide +kernel
theorem pn_5 : plainName "com/example/calm_current/calmcurrent/http/HttpStatusMayHaveContentLengthPinLaw" = true := by first | (simp [plainName, overriddenIn]; done) | decide +kernel
theorem ef_0_I (m : MethodId) (x0 : Int32) : entryFrame m #[(.int x0)] maxLocals = mkF m 0 #[.val (.int x0), .unset, .unset, .unset] [] := by first | (simp [entryFrame, mkF, argsToLocals, Value.category, maxLocals]; done) | rfl
set_option maxRecDepth 65536 in
set_option maxHeartbeats 40000000 in
theorem rm2_0 (l : Launch) (Z : State) (a0 : Array Value) (hw : ∀ d ∈ tables_1, d.before a0 Z = true) (w_OK : Addr) (h0 : Heap) (n0 : Nat) (O0 : Old Z n0 h0) (P1 : Fld Z Z.heap w_OK "com/example/calm_current/calmcurrent/http/HttpStatus" "_value" "I" (.int (200 : Int32))) :
    MetFree l (⟨"com/example/calm_current/calmcurrent/http/HttpStatus", "value", "()I"⟩ : MethodName) (head1 [Jvm.Cond.code (⟨"com/example/calm_current/calmcurrent/http/HttpStatus", "value", "()I"⟩ : MethodName) prog_14_method_6_code 1 (some .int)] ({ frames := 0, cells := 0, slots := 0, locals := 0 } : Room)) (fun a U => a = #[(.ref w_OK)] ∧ Z.Warmed39 U.vm ∧ U.heap = h0) (fun _ _ _ _ _ => True) (fun _ U o U' => ∃ v L, o = .returned v ∧ own_QP (some (.int (200 : Int32))) n0 h0 v U'.heap L ∧ FrameEnd U o U' L ({ frames := 0, cells := 0, slots := 0, locals := 0 } : Room).cells ({ frames := 0, cells := 0, slots := 0, locals := 0 } : Room).slots) := by
  refine MetFree.of_bodySF (plainFor_of_name pn_0) hisR ?_
  intro p e s m args below meth c s₁ Bd hml0 hP hK
  obtain ⟨rfl, hZ, hh⟩ := hP
  have hx := Bd.exec
  have hby := Bd.bytes
  have hml : c.maxLocals = 1 := hml0
  have hown : s.vm.findClass "com/example/calm_current/calmcurrent/http/HttpStatus" = some m.cls := findClass_of_methodNamed Bd.named
  have hnm := (name_of_methodNamed Bd.named Bd.method).1
  have X0 : Stand p l e ({ frames := 0, cells := 0, slots := 0, locals := 0 } : Room) s m #[(.ref w_OK)] below meth c s₁ [] 0 0 := Stand.of_body Bd
  have e0 : s₁.heap = h0 := by rw [← hh, Bd.state]; rfl
  have N0 := Fr.nil n0
  have pre0 : ∀ t, Steps p.tables e below (s₁.setTop (mkF m 0 #[.val (.ref w_OK)] [])) t → Steps p.tables e below (s₁.setTop (entryFrame m #[(.ref w_OK)] 1)) t := fun t k => castTop (ef_2_R m w_OK) k
  obtain ⟨T1, X1, e1, st1⟩ := getF X0 hx hZ hown (host := "") (Or.inl (hw _ (List.mem_of_getElem? (i := 12) rfl))) Via.refl e0 (P1.ext O0.2) (g := (mkF m 1 #[.val (.ref w_OK)] [(.ref w_OK)])) rfl rfl (hb hby d2_1)
  obtain ⟨fs, hr, hrun, hended, hW, hsame⟩ := X1.leave (v := (some (.int (200 : Int32)))) (fun h => by rw [Bd.returns] at h; cases h)
  refine ⟨_, _, pre0 _ ?_, hrun, hended, _, _, rfl, ?_, ⟨_, rfl⟩, hW, hsame.mono (by decide) (by decide)⟩
  · show Steps p.tables e below (s₁.setTop (mkF m 0 #[.val (.ref w_OK)] [])) _
    refine XS.aloadN X0.here hx rfl (hb hby d2_0) rfl rfl ?_
    show Steps p.tables e below (s₁.setTop (mkF m 1 #[.val (.ref w_OK)] [(.ref w_OK)])) _
    refine st1 _ ?_
    show Steps p.tables e below (T1.setTop (mkF m 4 #[.val (.ref w_OK)] [(.int (200 : Int32))])) _
    exact retI X1 hx Bd.returns (hb hby d2_4) hr
  · show own_QP (some (.int (200 : Int32))) n0 h0 _ T1.heap _
    rw [e1]
    exact ⟨rfl, N0, rfl⟩
set_option maxRecDepth 65536 in
set_option maxHeartbeats 40000000 in
theorem rm1_0 (l : Launch) (Z : State) (a0 : Array Value) (hw : ∀ d ∈ tables_1, d.before a0 Z = true) (p1 : Int32) (w_OK : Addr) (h0 : Heap) (n0 : Nat) (O0 : Old Z n0 h0) (P1 : Sta Z Z.heap "com/example/calm_current/calmcurrent/http/HttpStatus" "OK" "Lcom/example/calm_current/calmcurrent/http/HttpStatus;" (.ref w_OK)) (P2 : Exa Z Z.heap w_OK "com/example/calm_current/calmcurrent/http/HttpStatus") (P3 : Fld Z Z.heap w_OK "com/example/calm_current/calmcurrent/http/HttpStatus" "_value" "I" (.int (200 : Int32))) (P4 : p1 < (200 : Int32)) :
    MetFree l (⟨"com/example/calm_current/calmcurrent/http/HttpStatus", "mayHaveContentLength", "(I)Z"⟩ : MethodName) (head1 [Jvm.Cond.code (⟨"com/example/calm_current/calmcurrent/http/HttpStatus", "mayHaveContentLength", "(I)Z"⟩ : MethodName) prog_14_method_5_code 1 (some .boolean)] ({ frames := 1, cells := 0, slots := 0, locals := 13 } : Room)) (fun a U => a = #[(.int p1)] ∧ Z.Warmed39 U.vm ∧ U.heap = h0) (fun _ _ _ _ _ => True) (fun _ U o U' => ∃ v L, o = .returned v ∧ own_QP (some (.int (0 : Int32))) n0 h0 v U'.heap L ∧ FrameEnd U o U' L ({ frames := 1, cells := 0, slots := 0, locals := 13 } : Room).cells ({ frames := 1, cells := 0, slots := 0, locals := 13 } : Room).slots) := by
  refine MetFree.of_bodySF (plainFor_of_name pn_0) hisR ?_
  intro p e s m args below meth c s₁ Bd hml0 hP hK
  obtain ⟨rfl, hZ, hh⟩ := hP
  have hx := Bd.exec
  have hby := Bd.bytes
  have hml : c.maxLocals = 1 := hml0
  have hown : s.vm.findClass "com/example/calm_current/calmcurrent/http/HttpStatus" = some m.cls := findClass_of_methodNamed Bd.named
  have hnm := (name_of_methodNamed Bd.named Bd.method).1
  have X0 : Stand p l e ({ frames := 1, cells := 0, slots := 0, locals := 13 } : Room) s m #[(.int p1)] below meth c s₁ [] 0 0 := Stand.of_body Bd
  have e0 : s₁.heap = h0 := by rw [← hh, Bd.state]; rfl
  have N0 := Fr.nil n0
  have pre0 : ∀ t, Steps p.tables e below (s₁.setTop (mkF m 0 #[.val (.int p1)] [])) t → Steps p.tables e below (s₁.setTop (entryFrame m #[(.int p1)] 1)) t := fun t k => castTop (ef_1_I m p1) k
  obtain ⟨T1, X1, e1, st1⟩ := getS2 X0 hx hZ hown (host := "") (Or.inl (hw _ (List.mem_of_getElem? (i := 5) rfl))) Via.refl e0 (P1.ext O0.2) (g := (mkF m 1 #[.val (.int p1)] [(.int p1)])) rfl (hb hby d1_1)
  obtain ⟨cq2, kq2, q2a, q2b, q2c⟩ := isOf hZ e1 (P2.ext O0.2)
  obtain ⟨_, _, ⟨T2, L2, k2, n2⟩, -, X2, ⟨Lc2, hQ2, l2, y2, z2⟩, st2⟩ := X1.virtualBack hx (y := (⟨"com/example/calm_current/calmcurrent/http/HttpStatus", "value", "()I"⟩ : MethodName)) (z := (⟨"com/example/calm_current/calmcurrent/http/HttpStatus", "value", "()I"⟩ : MethodName)) hown (mvT hZ (hw _ (List.mem_of_getElem? (i := 7) rfl))) (mvT hZ (hw _ (List.mem_of_getElem? (i := 8) rfl))) (notFace_of_selects (args := #[]) (mvT hZ (hw _ (List.mem_of_getElem? (i := 10) rfl)))) (mvT hZ (hw _ (List.mem_of_getElem? (i := 10) rfl))) (mvT hZ (hw _ (List.mem_of_getElem? (i := 9) rfl))) (by decide) (backOf (W := 1) (rm2_0 l Z a0 hw w_OK h0 n0 O0 P3) hZ (hw _ (List.mem_of_getElem? (i := 11) rfl)) (hw _ (List.mem_of_getElem? (i := 3) rfl)) (by decide) (by decide)) q2a q2c (g := (mkF m 4 #[.val (.int p1)] [(.ref w_OK), (.int p1)])) rfl (by rw [hml]; rfl) (Steps.refl _) (argsL := []) (rest := [(.int p1)]) (lenOf pd_2 rfl) rfl (by show 2 * 0 + _ ≤ _; exact Nat.le_of_eq rfl) (hb hby d1_4) (fun _ _ => ⟨rfl, e1, (by decide : 0 + 0 ≤ _), (by decide : 0 + 0 ≤ _)⟩)
  dsimp only [Pt.U, Pt.locs, Pt.cells, Pt.slots] at X2 l2 y2 z2 st2 hQ2
  subst l2 y2 z2
  obtain ⟨rfl, N2q, e2⟩ := hQ2
  have N2 := Fr.app N0 N2q
  obtain ⟨fs, hr, hrun, hended, hW, hsame⟩ := X2.leave (v := (some (.int (0 : Int32)))) (fun h => by rw [Bd.returns] at h; cases h)
  refine ⟨_, _, pre0 _ ?_, hrun, hended, _, _, rfl, ?_, ⟨_, rfl⟩, hW, hsame.mono (by decide) (by decide)⟩
  · show Steps p.tables e below (s₁.setTop (mkF m 0 #[.val (.int p1)] [])) _
    refine XS.iloadN X0.here hx rfl (hb hby d1_0) rfl ?_
    show Steps p.tables e below (s₁.setTop (mkF m 1 #[.val (.int p1)] [(.int p1)])) _
    refine st1 _ ?_
    show Steps p.tables e below (T1.setTop (mkF m 4 #[.val (.int p1)] [(.ref w_OK), (.int p1)])) _
    refine st2.trans ?_
    show Steps p.tables e below (T2.setTop (mkF m 7 #[.val (.int p1)] [(.int (200 : Int32)), (.int p1)])) _
    refine XS.icmpYes X2.here hx rfl (pc0 := 7) (pc' := 34) rfl (hb hby d1_7) rfl (tlt P4).1 (by decide) (by decide) ?_
    show Steps p.tables e below (T2.setTop (mkF m 34 #[.val (.int p1)] [])) _
    refine XS.iconst X2.here hx rfl (hb hby d1_34) ?_
    show Steps p.tables e below (T2.setTop (mkF m 35 #[.val (.int p1)] [(.int (0 : Int32))])) _
    exact retN X2 hx (t := .boolean) Bd.returns (by simp) (hb hby d1_35) hr
  · show own_QP (some (.int (0 : Int32))) n0 h0 _ T2.heap _
    rw [e2]
    exact ⟨rfl, N2, rfl⟩
set_option maxRecDepth 65536 in
set_option maxHeartbeats 40000000 in
theorem law_0 (l : Launch) (Z : State) (a0 : Array Value) (hw : ∀ d ∈ tables_1, d.before a0 Z = true) (ws : List Jvm.Cond) (p1 : Int32) (w_OK : Addr) (h0 : Heap) (n0 : Nat) (O0 : Old Z n0 h0) (P1 : (((100 : Int32) + ((p1 &&& (2147483647 : Int32)) % (500 : Int32))) / (100 : Int32)) = (1 : Int32)) (P2 : Sta Z Z.heap "com/example/calm_current/calmcurrent/http/HttpStatus" "OK" "Lcom/example/calm_current/calmcurrent/http/HttpStatus;" (.ref w_OK)) (P3 : Exa Z Z.heap w_OK "com/example/calm_current/calmcurrent/http/HttpStatus") (P4 : Fld Z Z.heap w_OK "com/example/calm_current/calmcurrent/http/HttpStatus" "_value" "I" (.int (200 : Int32))) (P5 : ((100 : Int32) + ((p1 &&& (2147483647 : Int32)) % (500 : Int32))) < (200 : Int32)) :
    MetFree l x (head1 (Jvm.Cond.code x code maxLocals ret :: ws) room_1) (fun a U => a = #[(.int p1)] ∧ Z.Warmed39 U.vm ∧ U.heap = h0) (fun _ _ _ _ _ => True) (fun _ U o U' => ∃ v L, o = .returned v ∧ own_Q1 n0 v U'.heap L ∧ FrameEnd U o U' L room_1.cells room_1.slots) := by
  refine MetFree.of_bodySF (plainFor_of_name pn_5) hisR ?_
  intro p e s m args below meth c s₁ Bd hml0 hP hK
  obtain ⟨rfl, hZ, hh⟩ := hP
  have hx := Bd.exec
  have hby := Bd.bytes
  have hml : c.maxLocals = 4 := hml0
  have hown : s.vm.findClass "com/example/calm_current/calmcurrent/http/HttpStatusMayHaveContentLengthPinLaw" = some m.cls := findClass_of_methodNamed Bd.named
  have hnm := (name_of_methodNamed Bd.named Bd.method).1
  have X0 : Stand p l e room_1 s m #[(.int p1)] below meth c s₁ [] 0 0 := Stand.of_body Bd
  have e0 : s₁.heap = h0 := by rw [← hh, Bd.state]; rfl
  have N0 := Fr.nil n0
  have pre0 : ∀ t, Steps p.tables e below (s₁.setTop (mkF m 0 #[.val (.int p1), .unset, .unset, .unset] [])) t → Steps p.tables e below (s₁.setTop (entryFrame m #[(.int p1)] maxLocals)) t := fun t k => castTop (ef_0_I m p1) k
  obtain ⟨_, _, ⟨T1, L1, k1, n1⟩, -, X1, ⟨Lc1, hQ1, l1, y1, z1⟩, st1⟩ := Jvm.LawKit.callS X0 hx (y := (⟨"com/example/calm_current/calmcurrent/http/HttpStatus", "mayHaveContentLength", "(I)Z"⟩ : MethodName)) hown (mvT hZ (hw _ (List.mem_of_getElem? (i := 1) rfl))) (mvT hZ (hw _ (List.mem_of_getElem? (i := 2) rfl))) (mvT hZ (hw _ (List.mem_of_getElem? (i := 3) rfl))) (mvT hZ (hw _ (List.mem_of_getElem? (i := 4) rfl))) (by decide) (backOf (W := 0) (rm1_0 l Z a0 hw ((100 : Int32) + ((p1 &&& (2147483647 : Int32)) % (500 : Int32))) w_OK h0 n0 O0 P2 P3 P4 P5) hZ (hw _ (List.mem_of_getElem? (i := 4) rfl)) (hw _ (List.mem_of_getElem? (i := 3) rfl)) (by decide) (by decide)) (g := (mkF m 54 #[.val (.int p1), .val (.int ((100 : Int32) + ((p1 &&& (2147483647 : Int32)) % (500 : Int32)))), .val (.int (1 : Int32)), .val (.int (0 : Int32))] [(.int ((100 : Int32) + ((p1 &&& (2147483647 : Int32)) % (500 : Int32))))])) rfl (by rw [hml]; rfl) (argsL := [(.int ((100 : Int32) + ((p1 &&& (2147483647 : Int32)) % (500 : Int32))))]) (rest := []) (lenOf pd_4 rfl) rfl (by show 2 * 0 + _ ≤ _; exact Nat.le_of_eq rfl) (hb hby at_54) (fun _ _ => ⟨rfl, e0, (by decide : 0 + 0 ≤ _), (by decide : 0 + 0 ≤ _)⟩)
  dsimp only [Pt.U, Pt.locs, Pt.cells, Pt.slots] at X1 l1 y1 z1 st1 hQ1
  subst l1 y1 z1
  obtain ⟨rfl, N1q, e1⟩ := hQ1
  have N1 := Fr.app N0 N1q
  obtain ⟨fs, hr, hrun, hended, hW, hsame⟩ := X1.leave (v := some (.int (1 : Int32))) (fun h => by rw [Bd.returns] at h; cases h)
  refine ⟨_, _, pre0 _ ?_, hrun, hended, _, _, rfl, ?_, ⟨_, rfl⟩, hW, hsame.mono (by decide) (by decide)⟩
  · show Steps p.tables e below (s₁.setTop (mkF m 0 #[.val (.int p1), .unset, .unset, .unset] [])) _
    refine XS.bipush X0.here hx rfl (hb hby at_0) ?_
    show Steps p.tables e below (s₁.setTop (mkF m 2 #[.val (.int p1), .unset, .unset, .unset] [(.int (100 : Int32))])) _
    refine XS.iloadN X0.here hx rfl (hb hby at_2) rfl ?_
    show Steps p.tables e below (s₁.setTop (mkF m 3 #[.val (.int p1), .unset, .unset, .unset] [(.int p1), (.int (100 : Int32))])) _
    refine X0.ldcInt hx hown (mvT hZ (hw _ (List.mem_of_getElem? (i := 0) rfl))) (g := (mkF m 3 #[.val (.int p1), .unset, .unset, .unset] [(.int p1), (.int (100 : Int32))])) rfl (hb hby at_3) _ ?_
    show Steps p.tables e below (s₁.setTop (mkF m 5 #[.val (.int p1), .unset, .unset, .unset] [(.int (2147483647 : Int32)), (.int p1), (.int (100 : Int32))])) _
    refine XS.iand X0.here hx rfl (hb hby at_5) rfl ?_
    show Steps p.tables e below (s₁.setTop (mkF m 6 #[.val (.int p1), .unset, .unset, .unset] [(.int (p1 &&& (2147483647 : Int32))), (.int (100 : Int32))])) _
    refine XS.sipush X0.here hx rfl (hb hby at_6) ?_
    show Steps p.tables e below (s₁.setTop (mkF m 9 #[.val (.int p1), .unset, .unset, .unset] [(.int (500 : Int32)), (.int (p1 &&& (2147483647 : Int32))), (.int (100 : Int32))])) _
    refine iremM (g := (mkF m 9 #[.val (.int p1), .unset, .unset, .unset] [(.int (500 : Int32)), (.int (p1 &&& (2147483647 : Int32))), (.int (100 : Int32))])) X0 hx rfl (hb hby at_9) rfl (by decide) ?_
    show Steps p.tables e below (s₁.setTop (mkF m 10 #[.val (.int p1), .unset, .unset, .unset] [(.int ((p1 &&& (2147483647 : Int32)) % (500 : Int32))), (.int (100 : Int32))])) _
    refine XS.iadd X0.here hx rfl (hb hby at_10) rfl ?_
    show Steps p.tables e below (s₁.setTop (mkF m 11 #[.val (.int p1), .unset, .unset, .unset] [(.int ((100 : Int32) + ((p1 &&& (2147483647 : Int32)) % (500 : Int32))))])) _
    refine XS.istoreN X0.here hx rfl (hb hby at_11) rfl (l' := #[.val (.int p1), .val (.int ((100 : Int32) + ((p1 &&& (2147483647 : Int32)) % (500 : Int32)))), .unset, .unset]) rfl ?_
    show Steps p.tables e below (s₁.setTop (mkF m 12 #[.val (.int p1), .val (.int ((100 : Int32) + ((p1 &&& (2147483647 : Int32)) % (500 : Int32)))), .unset, .unset] [])) _
    refine XS.iloadN X0.here hx rfl (hb hby at_12) rfl ?_
    show Steps p.tables e below (s₁.setTop (mkF m 13 #[.val (.int p1), .val (.int ((100 : Int32) + ((p1 &&& (2147483647 : Int32)) % (500 : Int32)))), .unset, .unset] [(.int ((100 : Int32) + ((p1 &&& (2147483647 : Int32)) % (500 : Int32))))])) _
    refine XS.bipush X0.here hx rfl (hb hby at_13) ?_
    show Steps p.tables e below (s₁.setTop (mkF m 15 #[.val (.int p1), .val (.int ((100 : Int32) + ((p1 &&& (2147483647 : Int32)) % (500 : Int32)))), .unset, .unset] [(.int (100 : Int32)), (.int ((100 : Int32) + ((p1 &&& (2147483647 : Int32)) % (500 : Int32))))])) _
    refine XS.idiv X0.here hx rfl (hb hby at_15) rfl (by decide) ?_
    show Steps p.tables e below (s₁.setTop (mkF m 16 #[.val (.int p1), .val (.int ((100 : Int32) + ((p1 &&& (2147483647 : Int32)) % (500 : Int32)))), .unset, .unset] [(.int (((100 : Int32) + ((p1 &&& (2147483647 : Int32)) % (500 : Int32))) / (100 : Int32)))])) _
    rw [P1]
    show Steps p.tables e below (s₁.setTop (mkF m 16 #[.val (.int p1), .val (.int ((100 : Int32) + ((p1 &&& (2147483647 : Int32)) % (500 : Int32)))), .unset, .unset] [(.int (1 : Int32))])) _
    refine XS.istoreN X0.here hx rfl (hb hby at_16) rfl (l' := #[.val (.int p1), .val (.int ((100 : Int32) + ((p1 &&& (2147483647 : Int32)) % (500 : Int32)))), .val (.int (1 : Int32)), .unset]) rfl ?_
    show Steps p.tables e below (s₁.setTop (mkF m 17 #[.val (.int p1), .val (.int ((100 : Int32) + ((p1 &&& (2147483647 : Int32)) % (500 : Int32)))), .val (.int (1 : Int32)), .unset] [])) _
    refine XS.iloadN X0.here hx rfl (hb hby at_17) rfl ?_
    show Steps p.tables e below (s₁.setTop (mkF m 18 #[.val (.int p1), .val (.int ((100 : Int32) + ((p1 &&& (2147483647 : Int32)) % (500 : Int32)))), .val (.int (1 : Int32)), .unset] [(.int (1 : Int32))])) _
    refine XS.iconst X0.here hx rfl (hb hby at_18) ?_
    show Steps p.tables e below (s₁.setTop (mkF m 19 #[.val (.int p1), .val (.int ((100 : Int32) + ((p1 &&& (2147483647 : Int32)) % (500 : Int32)))), .val (.int (1 : Int32)), .unset] [(.int (1 : Int32)), (.int (1 : Int32))])) _
    refine XS.icmpNo X0.here hx rfl (hb hby at_19) rfl (by decide) ?_
    show Steps p.tables e below (s₁.setTop (mkF m 22 #[.val (.int p1), .val (.int ((100 : Int32) + ((p1 &&& (2147483647 : Int32)) % (500 : Int32)))), .val (.int (1 : Int32)), .unset] [])) _
    refine XS.iconst X0.here hx rfl (hb hby at_22) ?_
    show Steps p.tables e below (s₁.setTop (mkF m 23 #[.val (.int p1), .val (.int ((100 : Int32) + ((p1 &&& (2147483647 : Int32)) % (500 : Int32)))), .val (.int (1 : Int32)), .unset] [(.int (0 : Int32))])) _
    refine XS.istoreN X0.here hx rfl (hb hby at_23) rfl (l' := #[.val (.int p1), .val (.int ((100 : Int32) + ((p1 &&& (2147483647 : Int32)) % (500 : Int32)))), .val (.int (1 : Int32)), .val (.int (0 : Int32))]) rfl ?_
    show Steps p.tables e below (s₁.setTop (mkF m 24 #[.val (.int p1), .val (.int ((100 : Int32) + ((p1 &&& (2147483647 : Int32)) % (500 : Int32)))), .val (.int (1 : Int32)), .val (.int (0 : Int32))] [])) _
    refine XS.goto X0.here hx rfl (pc0 := 24) (pc' := 53) rfl (hb hby at_24) (by decide) (by decide) ?_
    show Steps p.tables e below (s₁.setTop (mkF m 53 #[.val (.int p1), .val (.int ((100 : Int32) + ((p1 &&& (2147483647 : Int32)) % (500 : Int32)))), .val (.int (1 : Int32)), .val (.int (0 : Int32))] [])) _
    refine XS.iloadN X0.here hx rfl (hb hby at_53) rfl ?_
    show Steps p.tables e below (s₁.setTop (mkF m 54 #[.val (.int p1), .val (.int ((100 : Int32) + ((p1 &&& (2147483647 : Int32)) % (500 : Int32)))), .val (.int (1 : Int32)), .val (.int (0 : Int32))] [(.int ((100 : Int32) + ((p1 &&& (2147483647 : Int32)) % (500 : Int32))))])) _
    refine st1 _ ?_
    show Steps p.tables e below (T1.setTop (mkF m 57 #[.val (.int p1), .val (.int ((100 : Int32) + ((p1 &&& (2147483647 : Int32)) % (500 : Int32)))), .val (.int (1 : Int32)), .val (.int (0 : Int32))] [(.int (0 : Int32))])) _
    refine XS.iloadN X1.here hx rfl (hb hby at_57) rfl ?_
    show Steps p.tables e below (T1.setTop (mkF m 58 #[.val (.int p1), .val (.int ((100 : Int32) + ((p1 &&& (2147483647 : Int32)) % (500 : Int32)))), .val (.int (1 : Int32)), .val (.int (0 : Int32))] [(.int (0 : Int32)), (.int (0 : Int32))])) _
    refine XS.icmpNo X1.here hx rfl (hb hby at_58) rfl (by decide) ?_
    show Steps p.tables e below (T1.setTop (mkF m 61 #[.val (.int p1), .val (.int ((100 : Int32) + ((p1 &&& (2147483647 : Int32)) % (500 : Int32)))), .val (.int (1 : Int32)), .val (.int (0 : Int32))] [])) _
    refine XS.iconst X1.here hx rfl (hb hby at_61) ?_
    show Steps p.tables e below (T1.setTop (mkF m 62 #[.val (.int p1), .val (.int ((100 : Int32) + ((p1 &&& (2147483647 : Int32)) % (500 : Int32)))), .val (.int (1 : Int32)), .val (.int (0 : Int32))] [(.int (1 : Int32))])) _
    refine XS.goto X1.here hx rfl (pc0 := 62) (pc' := 66) rfl (hb hby at_62) (by decide) (by decide) ?_
    show Steps p.tables e below (T1.setTop (mkF m 66 #[.val (.int p1), .val (.int ((100 : Int32) + ((p1 &&& (2147483647 : Int32)) % (500 : Int32)))), .val (.int (1 : Int32)), .val (.int (0 : Int32))] [(.int (1 : Int32))])) _
    exact retN X1 hx (t := .boolean) Bd.returns (by simp) (hb hby at_66) hr
  · show own_Q1 n0 _ T1.heap _
    rw [e1]
    exact ⟨rfl, N1⟩
set_option maxRecDepth 65536 in
set_option maxHeartbeats 40000000 in
theorem rm2_1 (l : Launch) (Z : State) (a0 : Array Value) (hw : ∀ d ∈ tables_1, d.before a0 Z = true) (w_NO_CONTENT : Addr) (h0 : Heap) (n0 : Nat) (O0 : Old Z n0 h0) (P1 : Fld Z Z.heap w_NO_CONTENT "com/example/calm_current/calmcurrent/http/HttpStatus" "_value" "I" (.int (204 : Int32))) :
    MetFree l (⟨"com/example/calm_current/calmcurrent/http/HttpStatus", "value", "()I"⟩ : MethodName) (head1 [Jvm.Cond.code (⟨"com/example/calm_current/calmcurrent/http/HttpStatus", "value", "()I"⟩ : MethodName) prog_14_method_6_code 1 (some .int)] ({ frames := 0, cells := 0, slots := 0, locals := 0 } : Room)) (fun a U => a = #[(.ref w_NO_CONTENT)] ∧ Z.Warmed39 U.vm ∧ U.heap = h0) (fun _ _ _ _ _ => True) (fun _ U o U' => ∃ v L, o = .returned v ∧ own_QP (some (.int (204 : Int32))) n0 h0 v U'.heap L ∧ FrameEnd U o U' L ({ frames := 0, cells := 0, slots := 0, locals := 0 } : Room).cells ({ frames := 0, cells := 0, slots := 0, locals := 0 } : Room).slots) := by
  refine MetFree.of_bodySF (plainFor_of_name pn_0) hisR ?_
  intro p e s m args below meth c s₁ Bd hml0 hP hK
  obtain ⟨rfl, hZ, hh⟩ := hP
  have hx := Bd.exec
  have hby := Bd.bytes
  have hml : c.maxLocals = 1 := hml0
  have hown : s.vm.findClass "com/example/calm_current/calmcurrent/http/HttpStatus" = some m.cls := findClass_of_methodNamed Bd.named
  have hnm := (name_of_methodNamed Bd.named Bd.method).1
  have X0 : Stand p l e ({ frames := 0, cells := 0, slots := 0, locals := 0 } : Room) s m #[(.ref w_NO_CONTENT)] below meth c s₁ [] 0 0 := Stand.of_body Bd
  have e0 : s₁.heap = h0 := by rw [← hh, Bd.state]; rfl
  have N0 := Fr.nil n0
  have pre0 : ∀ t, Steps p.tables e below (s₁.setTop (mkF m 0 #[.val (.ref w_NO_CONTENT)] [])) t → Steps p.tables e below (s₁.setTop (entryFrame m #[(.ref w_NO_CONTENT)] 1)) t := fun t k => castTop (ef_2_R m w_NO_CONTENT) k
  obtain ⟨T1, X1, e1, st1⟩ := getF X0 hx hZ hown (host := "") (Or.inl (hw _ (List.mem_of_getElem? (i := 12) rfl))) Via.refl e0 (P1.ext O0.2) (g := (mkF m 1 #[.val (.ref w_NO_CONTENT)] [(.ref w_NO_CONTENT)])) rfl rfl (hb hby d2_1)
  obtain ⟨fs, hr, hrun, hended, hW, hsame⟩ := X1.leave (v := (some (.int (204 : Int32)))) (fun h => by rw [Bd.returns] at h; cases h)
  refine ⟨_, _, pre0 _ ?_, hrun, hended, _, _, rfl, ?_, ⟨_, rfl⟩, hW, hsame.mono (by decide) (by decide)⟩
  · show Steps p.tables e below (s₁.setTop (mkF m 0 #[.val (.ref w_NO_CONTENT)] [])) _
    refine XS.aloadN X0.here hx rfl (hb hby d2_0) rfl rfl ?_
    show Steps p.tables e below (s₁.setTop (mkF m 1 #[.val (.ref w_NO_CONTENT)] [(.ref w_NO_CONTENT)])) _
    refine st1 _ ?_
    show Steps p.tables e below (T1.setTop (mkF m 4 #[.val (.ref w_NO_CONTENT)] [(.int (204 : Int32))])) _
    exact retI X1 hx Bd.returns (hb hby d2_4) hr
  · show own_QP (some (.int (204 : Int32))) n0 h0 _ T1.heap _
    rw [e1]
    exact ⟨rfl, N0, rfl⟩
set_option maxRecDepth 65536 in
set_option maxHeartbeats 40000000 in
theorem rm1_1 (l : Launch) (Z : State) (a0 : Array Value) (hw : ∀ d ∈ tables_1, d.before a0 Z = true) (p1 : Int32) (w_OK : Addr) (w_NO_CONTENT : Addr) (h0 : Heap) (n0 : Nat) (O0 : Old Z n0 h0) (P1 : Sta Z Z.heap "com/example/calm_current/calmcurrent/http/HttpStatus" "OK" "Lcom/example/calm_current/calmcurrent/http/HttpStatus;" (.ref w_OK)) (P2 : Exa Z Z.heap w_OK "com/example/calm_current/calmcurrent/http/HttpStatus") (P3 : Fld Z Z.heap w_OK "com/example/calm_current/calmcurrent/http/HttpStatus" "_value" "I" (.int (200 : Int32))) (P4 : ¬ (p1 < (200 : Int32))) (P5 : Sta Z Z.heap "com/example/calm_current/calmcurrent/http/HttpStatus" "NO_CONTENT" "Lcom/example/calm_current/calmcurrent/http/HttpStatus;" (.ref w_NO_CONTENT)) (P6 : Exa Z Z.heap w_NO_CONTENT "com/example/calm_current/calmcurrent/http/HttpStatus") (P7 : Fld Z Z.heap w_NO_CONTENT "com/example/calm_current/calmcurrent/http/HttpStatus" "_value" "I" (.int (204 : Int32))) (P8 : p1 = (204 : Int32)) :
    MetFree l (⟨"com/example/calm_current/calmcurrent/http/HttpStatus", "mayHaveContentLength", "(I)Z"⟩ : MethodName) (head1 [Jvm.Cond.code (⟨"com/example/calm_current/calmcurrent/http/HttpStatus", "mayHaveContentLength", "(I)Z"⟩ : MethodName) prog_14_method_5_code 1 (some .boolean)] ({ frames := 1, cells := 0, slots := 0, locals := 13 } : Room)) (fun a U => a = #[(.int p1)] ∧ Z.Warmed39 U.vm ∧ U.heap = h0) (fun _ _ _ _ _ => True) (fun _ U o U' => ∃ v L, o = .returned v ∧ own_QP (some (.int (0 : Int32))) n0 h0 v U'.heap L ∧ FrameEnd U o U' L ({ frames := 1, cells := 0, slots := 0, locals := 13 } : Room).cells ({ frames := 1, cells := 0, slots := 0, locals := 13 } : Room).slots) := by
  refine MetFree.of_bodySF (plainFor_of_name pn_0) hisR ?_
  intro p e s m args below meth c s₁ Bd hml0 hP hK
  obtain ⟨rfl, hZ, hh⟩ := hP
  have hx := Bd.exec
  have hby := Bd.bytes
  have hml : c.maxLocals = 1 := hml0
  have hown : s.vm.findClass "com/example/calm_current/calmcurrent/http/HttpStatus" = some m.cls := findClass_of_methodNamed Bd.named
  have hnm := (name_of_methodNamed Bd.named Bd.method).1
  have X0 : Stand p l e ({ frames := 1, cells := 0, slots := 0, locals := 13 } : Room) s m #[(.int p1)] below meth c s₁ [] 0 0 := Stand.of_body Bd
  have e0 : s₁.heap = h0 := by rw [← hh, Bd.state]; rfl
  have N0 := Fr.nil n0
  have pre0 : ∀ t, Steps p.tables e below (s₁.setTop (mkF m 0 #[.val (.int p1)] [])) t → Steps p.tables e below (s₁.setTop (entryFrame m #[(.int p1)] 1)) t := fun t k => castTop (ef_1_I m p1) k
  obtain ⟨T1, X1, e1, st1⟩ := getS2 X0 hx hZ hown (host := "") (Or.inl (hw _ (List.mem_of_getElem? (i := 5) rfl))) Via.refl e0 (P1.ext O0.2) (g := (mkF m 1 #[.val (.int p1)] [(.int p1)])) rfl (hb hby d1_1)
  obtain ⟨cq2, kq2, q2a, q2b, q2c⟩ := isOf hZ e1 (P2.ext O0.2)
  obtain ⟨_, _, ⟨T2, L2, k2, n2⟩, -, X2, ⟨Lc2, hQ2, l2, y2, z2⟩, st2⟩ := X1.virtualBack hx (y := (⟨"com/example/calm_current/calmcurrent/http/HttpStatus", "value", "()I"⟩ : MethodName)) (z := (⟨"com/example/calm_current/calmcurrent/http/HttpStatus", "value", "()I"⟩ : MethodName)) hown (mvT hZ (hw _ (List.mem_of_getElem? (i := 7) rfl))) (mvT hZ (hw _ (List.mem_of_getElem? (i := 8) rfl))) (notFace_of_selects (args := #[]) (mvT hZ (hw _ (List.mem_of_getElem? (i := 10) rfl)))) (mvT hZ (hw _ (List.mem_of_getElem? (i := 10) rfl))) (mvT hZ (hw _ (List.mem_of_getElem? (i := 9) rfl))) (by decide) (backOf (W := 1) (rm2_0 l Z a0 hw w_OK h0 n0 O0 P3) hZ (hw _ (List.mem_of_getElem? (i := 11) rfl)) (hw _ (List.mem_of_getElem? (i := 3) rfl)) (by decide) (by decide)) q2a q2c (g := (mkF m 4 #[.val (.int p1)] [(.ref w_OK), (.int p1)])) rfl (by rw [hml]; rfl) (Steps.refl _) (argsL := []) (rest := [(.int p1)]) (lenOf pd_2 rfl) rfl (by show 2 * 0 + _ ≤ _; exact Nat.le_of_eq rfl) (hb hby d1_4) (fun _ _ => ⟨rfl, e1, (by decide : 0 + 0 ≤ _), (by decide : 0 + 0 ≤ _)⟩)
  dsimp only [Pt.U, Pt.locs, Pt.cells, Pt.slots] at X2 l2 y2 z2 st2 hQ2
  subst l2 y2 z2
  obtain ⟨rfl, N2q, e2⟩ := hQ2
  have N2 := Fr.app N0 N2q
  obtain ⟨T3, X3, e3, st3⟩ := getS2 X2 hx hZ hown (host := "") (Or.inl (hw _ (List.mem_of_getElem? (i := 14) rfl))) Via.refl e2 (P5.ext O0.2) (g := (mkF m 11 #[.val (.int p1)] [(.int p1)])) rfl (hb hby d1_11)
  obtain ⟨cq4, kq4, q4a, q4b, q4c⟩ := isOf hZ e3 (P6.ext O0.2)
  obtain ⟨_, _, ⟨T4, L4, k4, n4⟩, -, X4, ⟨Lc4, hQ4, l4, y4, z4⟩, st4⟩ := X3.virtualBack hx (y := (⟨"com/example/calm_current/calmcurrent/http/HttpStatus", "value", "()I"⟩ : MethodName)) (z := (⟨"com/example/calm_current/calmcurrent/http/HttpStatus", "value", "()I"⟩ : MethodName)) hown (mvT hZ (hw _ (List.mem_of_getElem? (i := 7) rfl))) (mvT hZ (hw _ (List.mem_of_getElem? (i := 8) rfl))) (notFace_of_selects (args := #[]) (mvT hZ (hw _ (List.mem_of_getElem? (i := 10) rfl)))) (mvT hZ (hw _ (List.mem_of_getElem? (i := 10) rfl))) (mvT hZ (hw _ (List.mem_of_getElem? (i := 9) rfl))) (by decide) (backOf (W := 1) (rm2_1 l Z a0 hw w_NO_CONTENT h0 n0 O0 P7) hZ (hw _ (List.mem_of_getElem? (i := 11) rfl)) (hw _ (List.mem_of_getElem? (i := 3) rfl)) (by decide) (by decide)) q4a q4c (g := (mkF m 14 #[.val (.int p1)] [(.ref w_NO_CONTENT), (.int p1)])) rfl (by rw [hml]; rfl) (Steps.refl _) (argsL := []) (rest := [(.int p1)]) (lenOf pd_2 rfl) rfl (by show 2 * 0 + _ ≤ _; exact Nat.le_of_eq rfl) (hb hby d1_14) (fun _ _ => ⟨rfl, e3, (by decide : 0 + 0 ≤ _), (by decide : 0 + 0 ≤ _)⟩)
  dsimp only [Pt.U, Pt.locs, Pt.cells, Pt.slots] at X4 l4 y4 z4 st4 hQ4
  subst l4 y4 z4
  obtain ⟨rfl, N4q, e4⟩ := hQ4
  have N4 := Fr.app N2 N4q
  obtain ⟨fs, hr, hrun, hended, hW, hsame⟩ := X4.leave (v := (some (.int (0 : Int32)))) (fun h => by rw [Bd.returns] at h; cases h)
  refine ⟨_, _, pre0 _ ?_, hrun, hended, _, _, rfl, ?_, ⟨_, rfl⟩, hW, hsame.mono (by decide) (by decide)⟩
  · show Steps p.tables e below (s₁.setTop (mkF m 0 #[.val (.int p1)] [])) _
    refine XS.iloadN X0.here hx rfl (hb hby d1_0) rfl ?_
    show Steps p.tables e below (s₁.setTop (mkF m 1 #[.val (.int p1)] [(.int p1)])) _
    refine st1 _ ?_
    show Steps p.tables e below (T1.setTop (mkF m 4 #[.val (.int p1)] [(.ref w_OK), (.int p1)])) _
    refine st2.trans ?_
    show Steps p.tables e below (T2.setTop (mkF m 7 #[.val (.int p1)] [(.int (200 : Int32)), (.int p1)])) _
    refine XS.icmpNo X2.here hx rfl (hb hby d1_7) rfl (flt P4).1 ?_
    show Steps p.tables e below (T2.setTop (mkF m 10 #[.val (.int p1)] [])) _
    refine XS.iloadN X2.here hx rfl (hb hby d1_10) rfl ?_
    show Steps p.tables e below (T2.setTop (mkF m 11 #[.val (.int p1)] [(.int p1)])) _
    refine st3 _ ?_
    show Steps p.tables e below (T3.setTop (mkF m 14 #[.val (.int p1)] [(.ref w_NO_CONTENT), (.int p1)])) _
    refine st4.trans ?_
    show Steps p.tables e below (T4.setTop (mkF m 17 #[.val (.int p1)] [(.int (204 : Int32)), (.int p1)])) _
    refine XS.icmpYes X4.here hx rfl (pc0 := 17) (pc' := 34) rfl (hb hby d1_17) rfl (teq P8).1 (by decide) (by decide) ?_
    show Steps p.tables e below (T4.setTop (mkF m 34 #[.val (.int p1)] [])) _
    refine XS.iconst X4.here hx rfl (hb hby d1_34) ?_
    show Steps p.tables e below (T4.setTop (mkF m 35 #[.val (.int p1)] [(.int (0 : Int32))])) _
    exact retN X4 hx (t := .boolean) Bd.returns (by simp) (hb hby d1_35) hr
  · show own_QP (some (.int (0 : Int32))) n0 h0 _ T4.heap _
    rw [e4]
    exact ⟨rfl, N4, rfl⟩
set_option maxRecDepth 65536 in
set_option maxHeartbeats 40000000 in
theorem law_1 (l : Launch) (Z : State) (a0 : Array Value) (hw : ∀ d ∈ tables_1, d.before a0 Z = true) (ws : List Jvm.Cond) (p1 : Int32) (w_OK : Addr) (w_NO_CONTENT : Addr) (h0 : Heap) (n0 : Nat) (O0 : Old Z n0 h0) (P1 : ¬ ((((100 : Int32) + ((p1 &&& (2147483647 : Int32)) % (500 : Int32))) / (100 : Int32)) = (1 : Int32))) (P2 : ((100 : Int32) + ((p1 &&& (2147483647 : Int32)) % (500 : Int32))) = (204 : Int32)) (P3 : Sta Z Z.heap "com/example/calm_current/calmcurrent/http/HttpStatus" "OK" "Lcom/example/calm_current/calmcurrent/http/HttpStatus;" (.ref w_OK)) (P4 : Exa Z Z.heap w_OK "com/example/calm_current/calmcurrent/http/HttpStatus") (P5 : Fld Z Z.heap w_OK "com/example/calm_current/calmcurrent/http/HttpStatus" "_value" "I" (.int (200 : Int32))) (P6 : ¬ (((100 : Int32) + ((p1 &&& (2147483647 : Int32)) % (500 : Int32))) < (200 : Int32))) (P7 : Sta Z Z.heap "com/example/calm_current/calmcurrent/http/HttpStatus" "NO_CONTENT" "Lcom/example/calm_current/calmcurrent/http/HttpStatus;" (.ref w_NO_CONTENT)) (P8 : Exa Z Z.heap w_NO_CONTENT "com/example/calm_current/calmcurrent/http/HttpStatus") (P9 : Fld Z Z.heap w_NO_CONTENT "com/example/calm_current/calmcurrent/http/HttpStatus" "_value" "I" (.int (204 : Int32))) :
    MetFree l x (head1 (Jvm.Cond.code x code maxLocals ret :: ws) room_1) (fun a U => a = #[(.int p1)] ∧ Z.Warmed39 U.vm ∧ U.heap = h0) (fun _ _ _ _ _ => True) (fun _ U o U' => ∃ v L, o = .returned v ∧ own_Q1 n0 v U'.heap L ∧ FrameEnd U o U' L room_1.cells room_1.slots) := by
  refine MetFree.of_bodySF (plainFor_of_name pn_5) hisR ?_
  intro p e s m args below meth c s₁ Bd hml0 hP hK
  obtain ⟨rfl, hZ, hh⟩ := hP
  have hx := Bd.exec
  have hby := Bd.bytes
  have hml : c.maxLocals = 4 := hml0
  have hown : s.vm.findClass "com/example/calm_current/calmcurrent/http/HttpStatusMayHaveContentLengthPinLaw" = some m.cls := findClass_of_methodNamed Bd.named
  have hnm := (name_of_methodNamed Bd.named Bd.method).1
  have X0 : Stand p l e room_1 s m #[(.int p1)] below meth c s₁ [] 0 0 := Stand.of_body Bd
  have e0 : s₁.heap = h0 := by rw [← hh, Bd.state]; rfl
  have N0 := Fr.nil n0
  have pre0 : ∀ t, Steps p.tables e below (s₁.setTop (mkF m 0 #[.val (.int p1), .unset, .unset, .unset] [])) t → Steps p.tables e below (s₁.setTop (entryFrame m #[(.int p1)] maxLocals)) t := fun t k => castTop (ef_0_I m p1) k
  obtain ⟨_, _, ⟨T1, L1, k1, n1⟩, -, X1, ⟨Lc1, hQ1, l1, y1, z1⟩, st1⟩ := Jvm.LawKit.callS X0 hx (y := (⟨"com/example/calm_current/calmcurrent/http/HttpStatus", "mayHaveContentLength", "(I)Z"⟩ : MethodName)) hown (mvT hZ (hw _ (List.mem_of_getElem? (i := 1) rfl))) (mvT hZ (hw _ (List.mem_of_getElem? (i := 2) rfl))) (mvT hZ (hw _ (List.mem_of_getElem? (i := 3) rfl))) (mvT hZ (hw _ (List.mem_of_getElem? (i := 4) rfl))) (by decide) (backOf (W := 0) (rm1_1 l Z a0 hw ((100 : Int32) + ((p1 &&& (2147483647 : Int32)) % (500 : Int32))) w_OK w_NO_CONTENT h0 n0 O0 P3 P4 P5 P6 P7 P8 P9 P2) hZ (hw _ (List.mem_of_getElem? (i := 4) rfl)) (hw _ (List.mem_of_getElem? (i := 3) rfl)) (by decide) (by decide)) (g := (mkF m 54 #[.val (.int p1), .val (.int ((100 : Int32) + ((p1 &&& (2147483647 : Int32)) % (500 : Int32)))), .val (.int (((100 : Int32) + ((p1 &&& (2147483647 : Int32)) % (500 : Int32))) / (100 : Int32))), .val (.int (0 : Int32))] [(.int ((100 : Int32) + ((p1 &&& (2147483647 : Int32)) % (500 : Int32))))])) rfl (by rw [hml]; rfl) (argsL := [(.int ((100 : Int32) + ((p1 &&& (2147483647 : Int32)) % (500 : Int32))))]) (rest := []) (lenOf pd_4 rfl) rfl (by show 2 * 0 + _ ≤ _; exact Nat.le_of_eq rfl) (hb hby at_54) (fun _ _ => ⟨rfl, e0, (by decide : 0 + 0 ≤ _), (by decide : 0 + 0 ≤ _)⟩)
  dsimp only [Pt.U, Pt.locs, Pt.cells, Pt.slots] at X1 l1 y1 z1 st1 hQ1
  subst l1 y1 z1
  obtain ⟨rfl, N1q, e1⟩ := hQ1
  have N1 := Fr.app N0 N1q
  obtain ⟨fs, hr, hrun, hended, hW, hsame⟩ := X1.leave (v := some (.int (1 : Int32))) (fun h => by rw [Bd.returns] at h; cases h)
  refine ⟨_, _, pre0 _ ?_, hrun, hended, _, _, rfl, ?_, ⟨_, rfl⟩, hW, hsame.mono (by decide) (by decide)⟩
  · show Steps p.tables e below (s₁.setTop (mkF m 0 #[.val (.int p1), .unset, .unset, .unset] [])) _
    refine XS.bipush X0.here hx rfl (hb hby at_0) ?_
    show Steps p.tables e below (s₁.setTop (mkF m 2 #[.val (.int p1), .unset, .unset, .unset] [(.int (100 : Int32))])) _
    refine XS.iloadN X0.here hx rfl (hb hby at_2) rfl ?_
    show Steps p.tables e below (s₁.setTop (mkF m 3 #[.val (.int p1), .unset, .unset, .unset] [(.int p1), (.int (100 : Int32))])) _
    refine X0.ldcInt hx hown (mvT hZ (hw _ (List.mem_of_getElem? (i := 0) rfl))) (g := (mkF m 3 #[.val (.int p1), .unset, .unset, .unset] [(.int p1), (.int (100 : Int32))])) rfl (hb hby at_3) _ ?_
    show Steps p.tables e below (s₁.setTop (mkF m 5 #[.val (.int p1), .unset, .unset, .unset] [(.int (2147483647 : Int32)), (.int p1), (.int (100 : Int32))])) _
    refine XS.iand X0.here hx rfl (hb hby at_5) rfl ?_
    show Steps p.tables e below (s₁.setTop (mkF m 6 #[.val (.int p1), .unset, .unset, .unset] [(.int (p1 &&& (2147483647 : Int32))), (.int (100 : Int32))])) _
    refine XS.sipush X0.here hx rfl (hb hby at_6) ?_
    show Steps p.tables e below (s₁.setTop (mkF m 9 #[.val (.int p1), .unset, .unset, .unset] [(.int (500 : Int32)), (.int (p1 &&& (2147483647 : Int32))), (.int (100 : Int32))])) _
    refine iremM (g := (mkF m 9 #[.val (.int p1), .unset, .unset, .unset] [(.int (500 : Int32)), (.int (p1 &&& (2147483647 : Int32))), (.int (100 : Int32))])) X0 hx rfl (hb hby at_9) rfl (by decide) ?_
    show Steps p.tables e below (s₁.setTop (mkF m 10 #[.val (.int p1), .unset, .unset, .unset] [(.int ((p1 &&& (2147483647 : Int32)) % (500 : Int32))), (.int (100 : Int32))])) _
    refine XS.iadd X0.here hx rfl (hb hby at_10) rfl ?_
    show Steps p.tables e below (s₁.setTop (mkF m 11 #[.val (.int p1), .unset, .unset, .unset] [(.int ((100 : Int32) + ((p1 &&& (2147483647 : Int32)) % (500 : Int32))))])) _
    refine XS.istoreN X0.here hx rfl (hb hby at_11) rfl (l' := #[.val (.int p1), .val (.int ((100 : Int32) + ((p1 &&& (2147483647 : Int32)) % (500 : Int32)))), .unset, .unset]) rfl ?_
    show Steps p.tables e below (s₁.setTop (mkF m 12 #[.val (.int p1), .val (.int ((100 : Int32) + ((p1 &&& (2147483647 : Int32)) % (500 : Int32)))), .unset, .unset] [])) _
    refine XS.iloadN X0.here hx rfl (hb hby at_12) rfl ?_
    show Steps p.tables e below (s₁.setTop (mkF m 13 #[.val (.int p1), .val (.int ((100 : Int32) + ((p1 &&& (2147483647 : Int32)) % (500 : Int32)))), .unset, .unset] [(.int ((100 : Int32) + ((p1 &&& (2147483647 : Int32)) % (500 : Int32))))])) _
    refine XS.bipush X0.here hx rfl (hb hby at_13) ?_
    show Steps p.tables e below (s₁.setTop (mkF m 15 #[.val (.int p1), .val (.int ((100 : Int32) + ((p1 &&& (2147483647 : Int32)) % (500 : Int32)))), .unset, .unset] [(.int (100 : Int32)), (.int ((100 : Int32) + ((p1 &&& (2147483647 : Int32)) % (500 : Int32))))])) _
    refine XS.idiv X0.here hx rfl (hb hby at_15) rfl (by decide) ?_
    show Steps p.tables e below (s₁.setTop (mkF m 16 #[.val (.int p1), .val (.int ((100 : Int32) + ((p1 &&& (2147483647 : Int32)) % (500 : Int32)))), .unset, .unset] [(.int (((100 : Int32) + ((p1 &&& (2147483647 : Int32)) % (500 : Int32))) / (100 : Int32)))])) _
    refine XS.istoreN X0.here hx rfl (hb hby at_16) rfl (l' := #[.val (.int p1), .val (.int ((100 : Int32) + ((p1 &&& (2147483647 : Int32)) % (500 : Int32)))), .val (.int (((100 : Int32) + ((p1 &&& (2147483647 : Int32)) % (500 : Int32))) / (100 : Int32))), .unset]) rfl ?_
    show Steps p.tables e below (s₁.setTop (mkF m 17 #[.val (.int p1), .val (.int ((100 : Int32) + ((p1 &&& (2147483647 : Int32)) % (500 : Int32)))), .val (.int (((100 : Int32) + ((p1 &&& (2147483647 : Int32)) % (500 : Int32))) / (100 : Int32))), .unset] [])) _
    refine XS.iloadN X0.here hx rfl (hb hby at_17) rfl ?_
    show Steps p.tables e below (s₁.setTop (mkF m 18 #[.val (.int p1), .val (.int ((100 : Int32) + ((p1 &&& (2147483647 : Int32)) % (500 : Int32)))), .val (.int (((100 : Int32) + ((p1 &&& (2147483647 : Int32)) % (500 : Int32))) / (100 : Int32))), .unset] [(.int (((100 : Int32) + ((p1 &&& (2147483647 : Int32)) % (500 : Int32))) / (100 : Int32)))])) _
    refine XS.iconst X0.here hx rfl (hb hby at_18) ?_
    show Steps p.tables e below (s₁.setTop (mkF m 19 #[.val (.int p1), .val (.int ((100 : Int32) + ((p1 &&& (2147483647 : Int32)) % (500 : Int32)))), .val (.int (((100 : Int32) + ((p1 &&& (2147483647 : Int32)) % (500 : Int32))) / (100 : Int32))), .unset] [(.int (1 : Int32)), (.int (((100 : Int32) + ((p1 &&& (2147483647 : Int32)) % (500 : Int32))) / (100 : Int32)))])) _
    refine XS.icmpYes X0.here hx rfl (pc0 := 19) (pc' := 27) rfl (hb hby at_19) rfl (feq P1).2 (by decide) (by decide) ?_
    show Steps p.tables e below (s₁.setTop (mkF m 27 #[.val (.int p1), .val (.int ((100 : Int32) + ((p1 &&& (2147483647 : Int32)) % (500 : Int32)))), .val (.int (((100 : Int32) + ((p1 &&& (2147483647 : Int32)) % (500 : Int32))) / (100 : Int32))), .unset] [])) _
    refine XS.iloadN X0.here hx rfl (hb hby at_27) rfl ?_
    show Steps p.tables e below (s₁.setTop (mkF m 28 #[.val (.int p1), .val (.int ((100 : Int32) + ((p1 &&& (2147483647 : Int32)) % (500 : Int32)))), .val (.int (((100 : Int32) + ((p1 &&& (2147483647 : Int32)) % (500 : Int32))) / (100 : Int32))), .unset] [(.int ((100 : Int32) + ((p1 &&& (2147483647 : Int32)) % (500 : Int32))))])) _
    refine XS.sipush X0.here hx rfl (hb hby at_28) ?_
    show Steps p.tables e below (s₁.setTop (mkF m 31 #[.val (.int p1), .val (.int ((100 : Int32) + ((p1 &&& (2147483647 : Int32)) % (500 : Int32)))), .val (.int (((100 : Int32) + ((p1 &&& (2147483647 : Int32)) % (500 : Int32))) / (100 : Int32))), .unset] [(.int (204 : Int32)), (.int ((100 : Int32) + ((p1 &&& (2147483647 : Int32)) % (500 : Int32))))])) _
    refine XS.icmpNo X0.here hx rfl (hb hby at_31) rfl (teq P2).2 ?_
    show Steps p.tables e below (s₁.setTop (mkF m 34 #[.val (.int p1), .val (.int ((100 : Int32) + ((p1 &&& (2147483647 : Int32)) % (500 : Int32)))), .val (.int (((100 : Int32) + ((p1 &&& (2147483647 : Int32)) % (500 : Int32))) / (100 : Int32))), .unset] [])) _
    refine XS.iconst X0.here hx rfl (hb hby at_34) ?_
    show Steps p.tables e below (s₁.setTop (mkF m 35 #[.val (.int p1), .val (.int ((100 : Int32) + ((p1 &&& (2147483647 : Int32)) % (500 : Int32)))), .val (.int (((100 : Int32) + ((p1 &&& (2147483647 : Int32)) % (500 : Int32))) / (100 : Int32))), .unset] [(.int (0 : Int32))])) _
    refine XS.istoreN X0.here hx rfl (hb hby at_35) rfl (l' := #[.val (.int p1), .val (.int ((100 : Int32) + ((p1 &&& (2147483647 : Int32)) % (500 : Int32)))), .val (.int (((100 : Int32) + ((p1 &&& (2147483647 : Int32)) % (500 : Int32))) / (100 : Int32))), .val (.int (0 : Int32))]) rfl ?_
    show Steps p.tables e below (s₁.setTop (mkF m 36 #[.val (.int p1), .val (.int ((100 : Int32) + ((p1 &&& (2147483647 : Int32)) % (500 : Int32)))), .val (.int (((100 : Int32) + ((p1 &&& (2147483647 : Int32)) % (500 : Int32))) / (100 : Int32))), .val (.int (0 : Int32))] [])) _
    refine XS.goto X0.here hx rfl (pc0 := 36) (pc' := 53) rfl (hb hby at_36) (by decide) (by decide) ?_
    show Steps p.tables e below (s₁.setTop (mkF m 53 #[.val (.int p1), .val (.int ((100 : Int32) + ((p1 &&& (2147483647 : Int32)) % (500 : Int32)))), .val (.int (((100 : Int32) + ((p1 &&& (2147483647 : Int32)) % (500 : Int32))) / (100 : Int32))), .val (.int (0 : Int32))] [])) _
    refine XS.iloadN X0.here hx rfl (hb hby at_53) rfl ?_
    show Steps p.tables e below (s₁.setTop (mkF m 54 #[.val (.int p1), .val (.int ((100 : Int32) + ((p1 &&& (2147483647 : Int32)) % (500 : Int32)))), .val (.int (((100 : Int32) + ((p1 &&& (2147483647 : Int32)) % (500 : Int32))) / (100 : Int32))), .val (.int (0 : Int32))] [(.int ((100 : Int32) + ((p1 &&& (2147483647 : Int32)) % (500 : Int32))))])) _
    refine st1 _ ?_
    show Steps p.tables e below (T1.setTop (mkF m 57 #[.val (.int p1), .val (.int ((100 : Int32) + ((p1 &&& (2147483647 : Int32)) % (500 : Int32)))), .val (.int (((100 : Int32) + ((p1 &&& (2147483647 : Int32)) % (500 : Int32))) / (100 : Int32))), .val (.int (0 : Int32))] [(.int (0 : Int32))])) _
    refine XS.iloadN X1.here hx rfl (hb hby at_57) rfl ?_
    show Steps p.tables e below (T1.setTop (mkF m 58 #[.val (.int p1), .val (.int ((100 : Int32) + ((p1 &&& (2147483647 : Int32)) % (500 : Int32)))), .val (.int (((100 : Int32) + ((p1 &&& (2147483647 : Int32)) % (500 : Int32))) / (100 : Int32))), .val (.int (0 : Int32))] [(.int (0 : Int32)), (.int (0 : Int32))])) _
    refine XS.icmpNo X1.here hx rfl (hb hby at_58) rfl (by decide) ?_
    show Steps p.tables e below (T1.setTop (mkF m 61 #[.val (.int p1), .val (.int ((100 : Int32) + ((p1 &&& (2147483647 : Int32)) % (500 : Int32)))), .val (.int (((100 : Int32) + ((p1 &&& (2147483647 : Int32)) % (500 : Int32))) / (100 : Int32))), .val (.int (0 : Int32))] [])) _
    refine XS.iconst X1.here hx rfl (hb hby at_61) ?_
    show Steps p.tables e below (T1.setTop (mkF m 62 #[.val (.int p1), .val (.int ((100 : Int32) + ((p1 &&& (2147483647 : Int32)) % (500 : Int32)))), .val (.int (((100 : Int32) + ((p1 &&& (2147483647 : Int32)) % (500 : Int32))) / (100 : Int32))), .val (.int (0 : Int32))] [(.int (1 : Int32))])) _
    refine XS.goto X1.here hx rfl (pc0 := 62) (pc' := 66) rfl (hb hby at_62) (by decide) (by decide) ?_
    show Steps p.tables e below (T1.setTop (mkF m 66 #[.val (.int p1), .val (.int ((100 : Int32) + ((p1 &&& (2147483647 : Int32)) % (500 : Int32)))), .val (.int (((100 : Int32) + ((p1 &&& (2147483647 : Int32)) % (500 : Int32))) / (100 : Int32))), .val (.int (0 : Int32))] [(.int (1 : Int32))])) _
    exact retN X1 hx (t := .boolean) Bd.returns (by simp) (hb hby at_66) hr
  · show own_Q1 n0 _ T1.heap _
    rw [e1]
    exact ⟨rfl, N1⟩
set_option maxRecDepth 65536 in
set_option maxHeartbeats 40000000 in
theorem rm2_2 (l : Launch) (Z : State) (a0 : Array Value) (hw : ∀ d ∈ tables_1, d.before a0 Z = true) (w_NOT_MODIFIED : Addr) (h0 : Heap) (n0 : Nat) (O0 : Old Z n0 h0) (P1 : Fld Z Z.heap w_NOT_MODIFIED "com/example/calm_current/calmcurrent/http/HttpStatus" "_value" "I" (.int (304 : Int32))) :
    MetFree l (⟨"com/example/calm_current/calmcurrent/http/HttpStatus", "value", "()I"⟩ : MethodName) (head1 [Jvm.Cond.code (⟨"com/example/calm_current/calmcurrent/http/HttpStatus", "value", "()I"⟩ : MethodName) prog_14_method_6_code 1 (some .int)] ({ frames := 0, cells := 0, slots := 0, locals := 0 } : Room)) (fun a U => a = #[(.ref w_NOT_MODIFIED)] ∧ Z.Warmed39 U.vm ∧ U.heap = h0) (fun _ _ _ _ _ => True) (fun _ U o U' => ∃ v L, o = .returned v ∧ own_QP (some (.int (304 : Int32))) n0 h0 v U'.heap L ∧ FrameEnd U o U' L ({ frames := 0, cells := 0, slots := 0, locals := 0 } : Room).cells ({ frames := 0, cells := 0, slots := 0, locals := 0 } : Room).slots) := by
  refine MetFree.of_bodySF (plainFor_of_name pn_0) hisR ?_
  intro p e s m args below meth c s₁ Bd hml0 hP hK
  obtain ⟨rfl, hZ, hh⟩ := hP
  have hx := Bd.exec
  have hby := Bd.bytes
  have hml : c.maxLocals = 1 := hml0
  have hown : s.vm.findClass "com/example/calm_current/calmcurrent/http/HttpStatus" = some m.cls := findClass_of_methodNamed Bd.named
  have hnm := (name_of_methodNamed Bd.named Bd.method).1
  have X0 : Stand p l e ({ frames := 0, cells := 0, slots := 0, locals := 0 } : Room) s m #[(.ref w_NOT_MODIFIED)] below meth c s₁ [] 0 0 := Stand.of_body Bd
  have e0 : s₁.heap = h0 := by rw [← hh, Bd.state]; rfl
  have N0 := Fr.nil n0
  have pre0 : ∀ t, Steps p.tables e below (s₁.setTop (mkF m 0 #[.val (.ref w_NOT_MODIFIED)] [])) t → Steps p.tables e below (s₁.setTop (entryFrame m #[(.ref w_NOT_MODIFIED)] 1)) t := fun t k => castTop (ef_2_R m w_NOT_MODIFIED) k
  obtain ⟨T1, X1, e1, st1⟩ := getF X0 hx hZ hown (host := "") (Or.inl (hw _ (List.mem_of_getElem? (i := 12) rfl))) Via.refl e0 (P1.ext O0.2) (g := (mkF m 1 #[.val (.ref w_NOT_MODIFIED)] [(.ref w_NOT_MODIFIED)])) rfl rfl (hb hby d2_1)
  obtain ⟨fs, hr, hrun, hended, hW, hsame⟩ := X1.leave (v := (some (.int (304 : Int32)))) (fun h => by rw [Bd.returns] at h; cases h)
  refine ⟨_, _, pre0 _ ?_, hrun, hended, _, _, rfl, ?_, ⟨_, rfl⟩, hW, hsame.mono (by decide) (by decide)⟩
  · show Steps p.tables e below (s₁.setTop (mkF m 0 #[.val (.ref w_NOT_MODIFIED)] [])) _
    refine XS.aloadN X0.here hx rfl (hb hby d2_0) rfl rfl ?_
    show Steps p.tables e below (s₁.setTop (mkF m 1 #[.val (.ref w_NOT_MODIFIED)] [(.ref w_NOT_MODIFIED)])) _
    refine st1 _ ?_
    show Steps p.tables e below (T1.setTop (mkF m 4 #[.val (.ref w_NOT_MODIFIED)] [(.int (304 : Int32))])) _
    exact retI X1 hx Bd.returns (hb hby d2_4) hr
  · show own_QP (some (.int (304 : Int32))) n0 h0 _ T1.heap _
    rw [e1]
    exact ⟨rfl, N0, rfl⟩
set_option maxRecDepth 65536 in
set_option maxHeartbeats 40000000 in
theorem rm1_2 (l : Launch) (Z : State) (a0 : Array Value) (hw : ∀ d ∈ tables_1, d.before a0 Z = true) (p1 : Int32) (w_OK : Addr) (w_NO_CONTENT : Addr) (w_NOT_MODIFIED : Addr) (h0 : Heap) (n0 : Nat) (O0 : Old Z n0 h0) (P1 : Sta Z Z.heap "com/example/calm_current/calmcurrent/http/HttpStatus" "OK" "Lcom/example/calm_current/calmcurrent/http/HttpStatus;" (.ref w_OK)) (P2 : Exa Z Z.heap w_OK "com/example/calm_current/calmcurrent/http/HttpStatus") (P3 : Fld Z Z.heap w_OK "com/example/calm_current/calmcurrent/http/HttpStatus" "_value" "I" (.int (200 : Int32))) (P4 : ¬ (p1 < (200 : Int32))) (P5 : Sta Z Z.heap "com/example/calm_current/calmcurrent/http/HttpStatus" "NO_CONTENT" "Lcom/example/calm_current/calmcurrent/http/HttpStatus;" (.ref w_NO_CONTENT)) (P6 : Exa Z Z.heap w_NO_CONTENT "com/example/calm_current/calmcurrent/http/HttpStatus") (P7 : Fld Z Z.heap w_NO_CONTENT "com/example/calm_current/calmcurrent/http/HttpStatus" "_value" "I" (.int (204 : Int32))) (P8 : ¬ (p1 = (204 : Int32))) (P9 : Sta Z Z.heap "com/example/calm_current/calmcurrent/http/HttpStatus" "NOT_MODIFIED" "Lcom/example/calm_current/calmcurrent/http/HttpStatus;" (.ref w_NOT_MODIFIED)) (P10 : Exa Z Z.heap w_NOT_MODIFIED "com/example/calm_current/calmcurrent/http/HttpStatus") (P11 : Fld Z Z.heap w_NOT_MODIFIED "com/example/calm_current/calmcurrent/http/HttpStatus" "_value" "I" (.int (304 : Int32))) (P12 : p1 = (304 : Int32)) :
    MetFree l (⟨"com/example/calm_current/calmcurrent/http/HttpStatus", "mayHaveContentLength", "(I)Z"⟩ : MethodName) (head1 [Jvm.Cond.code (⟨"com/example/calm_current/calmcurrent/http/HttpStatus", "mayHaveContentLength", "(I)Z"⟩ : MethodName) prog_14_method_5_code 1 (some .boolean)] ({ frames := 1, cells := 0, slots := 0, locals := 13 } : Room)) (fun a U => a = #[(.int p1)] ∧ Z.Warmed39 U.vm ∧ U.heap = h0) (fun _ _ _ _ _ => True) (fun _ U o U' => ∃ v L, o = .returned v ∧ own_QP (some (.int (0 : Int32))) n0 h0 v U'.heap L ∧ FrameEnd U o U' L ({ frames := 1, cells := 0, slots := 0, locals := 13 } : Room).cells ({ frames := 1, cells := 0, slots := 0, locals := 13 } : Room).slots) := by
  refine MetFree.of_bodySF (plainFor_of_name pn_0) hisR ?_
  intro p e s m args below meth c s₁ Bd hml0 hP hK
  obtain ⟨rfl, hZ, hh⟩ := hP
  have hx := Bd.exec
  have hby := Bd.bytes
  have hml : c.maxLocals = 1 := hml0
  have hown : s.vm.findClass "com/example/calm_current/calmcurrent/http/HttpStatus" = some m.cls := findClass_of_methodNamed Bd.named
  have hnm := (name_of_methodNamed Bd.named Bd.method).1
  have X0 : Stand p l e ({ frames := 1, cells := 0, slots := 0, locals := 13 } : Room) s m #[(.int p1)] below meth c s₁ [] 0 0 := Stand.of_body Bd
  have e0 : s₁.heap = h0 := by rw [← hh, Bd.state]; rfl
  have N0 := Fr.nil n0
  have pre0 : ∀ t, Steps p.tables e below (s₁.setTop (mkF m 0 #[.val (.int p1)] [])) t → Steps p.tables e below (s₁.setTop (entryFrame m #[(.int p1)] 1)) t := fun t k => castTop (ef_1_I m p1) k
  obtain ⟨T1, X1, e1, st1⟩ := getS2 X0 hx hZ hown (host := "") (Or.inl (hw _ (List.mem_of_getElem? (i := 5) rfl))) Via.refl e0 (P1.ext O0.2) (g := (mkF m 1 #[.val (.int p1)] [(.int p1)])) rfl (hb hby d1_1)
  obtain ⟨cq2, kq2, q2a, q2b, q2c⟩ := isOf hZ e1 (P2.ext O0.2)
  obtain ⟨_, _, ⟨T2, L2, k2, n2⟩, -, X2, ⟨Lc2, hQ2, l2, y2, z2⟩, st2⟩ := X1.virtualBack hx (y := (⟨"com/example/calm_current/calmcurrent/http/HttpStatus", "value", "()I"⟩ : MethodName)) (z := (⟨"com/example/calm_current/calmcurrent/http/HttpStatus", "value", "()I"⟩ : MethodName)) hown (mvT hZ (hw _ (List.mem_of_getElem? (i := 7) rfl))) (mvT hZ (hw _ (List.mem_of_getElem? (i := 8) rfl))) (notFace_of_selects (args := #[]) (mvT hZ (hw _ (List.mem_of_getElem? (i := 10) rfl)))) (mvT hZ (hw _ (List.mem_of_getElem? (i := 10) rfl))) (mvT hZ (hw _ (List.mem_of_getElem? (i := 9) rfl))) (by decide) (backOf (W := 1) (rm2_0 l Z a0 hw w_OK h0 n0 O0 P3) hZ (hw _ (List.mem_of_getElem? (i := 11) rfl)) (hw _ (List.mem_of_getElem? (i := 3) rfl)) (by decide) (by decide)) q2a q2c (g := (mkF m 4 #[.val (.int p1)] [(.ref w_OK), (.int p1)])) rfl (by rw [hml]; rfl) (Steps.refl _) (argsL := []) (rest := [(.int p1)]) (lenOf pd_2 rfl) rfl (by show 2 * 0 + _ ≤ _; exact Nat.le_of_eq rfl) (hb hby d1_4) (fun _ _ => ⟨rfl, e1, (by decide : 0 + 0 ≤ _), (by decide : 0 + 0 ≤ _)⟩)
  dsimp only [Pt.U, Pt.locs, Pt.cells, Pt.slots] at X2 l2 y2 z2 st2 hQ2
  subst l2 y2 z2
  obtain ⟨rfl, N2q, e2⟩ := hQ2
  have N2 := Fr.app N0 N2q
  obtain ⟨T3, X3, e3, st3⟩ := getS2 X2 hx hZ hown (host := "") (Or.inl (hw _ (List.mem_of_getElem? (i := 14) rfl))) Via.refl e2 (P5.ext O0.2) (g := (mkF m 11 #[.val (.int p1)] [(.int p1)])) rfl (hb hby d1_11)
  obtain ⟨cq4, kq4, q4a, q4b, q4c⟩ := isOf hZ e3 (P6.ext O0.2)
  obtain ⟨_, _, ⟨T4, L4, k4, n4⟩, -, X4, ⟨Lc4, hQ4, l4, y4, z4⟩, st4⟩ := X3.virtualBack hx (y := (⟨"com/example/calm_current/calmcurrent/http/HttpStatus", "value", "()I"⟩ : MethodName)) (z := (⟨"com/example/calm_current/calmcurrent/http/HttpStatus", "value", "()I"⟩ : MethodName)) hown (mvT hZ (hw _ (List.mem_of_getElem? (i := 7) rfl))) (mvT hZ (hw _ (List.mem_of_getElem? (i := 8) rfl))) (notFace_of_selects (args := #[]) (mvT hZ (hw _ (List.mem_of_getElem? (i := 10) rfl)))) (mvT hZ (hw _ (List.mem_of_getElem? (i := 10) rfl))) (mvT hZ (hw _ (List.mem_of_getElem? (i := 9) rfl))) (by decide) (backOf (W := 1) (rm2_1 l Z a0 hw w_NO_CONTENT h0 n0 O0 P7) hZ (hw _ (List.mem_of_getElem? (i := 11) rfl)) (hw _ (List.mem_of_getElem? (i := 3) rfl)) (by decide) (by decide)) q4a q4c (g := (mkF m 14 #[.val (.int p1)] [(.ref w_NO_CONTENT), (.int p1)])) rfl (by rw [hml]; rfl) (Steps.refl _) (argsL := []) (rest := [(.int p1)]) (lenOf pd_2 rfl) rfl (by show 2 * 0 + _ ≤ _; exact Nat.le_of_eq rfl) (hb hby d1_14) (fun _ _ => ⟨rfl, e3, (by decide : 0 + 0 ≤ _), (by decide : 0 + 0 ≤ _)⟩)
  dsimp only [Pt.U, Pt.locs, Pt.cells, Pt.slots] at X4 l4 y4 z4 st4 hQ4
  subst l4 y4 z4
  obtain ⟨rfl, N4q, e4⟩ := hQ4
  have N4 := Fr.app N2 N4q
  obtain ⟨T5, X5, e5, st5⟩ := getS2 X4 hx hZ hown (host := "") (Or.inl (hw _ (List.mem_of_getElem? (i := 16) rfl))) Via.refl e4 (P9.ext O0.2) (g := (mkF m 21 #[.val (.int p1)] [(.int p1)])) rfl (hb hby d1_21)
  obtain ⟨cq6, kq6, q6a, q6b, q6c⟩ := isOf hZ e5 (P10.ext O0.2)
  obtain ⟨_, _, ⟨T6, L6, k6, n6⟩, -, X6, ⟨Lc6, hQ6, l6, y6, z6⟩, st6⟩ := X5.virtualBack hx (y := (⟨"com/example/calm_current/calmcurrent/http/HttpStatus", "value", "()I"⟩ : MethodName)) (z := (⟨"com/example/calm_current/calmcurrent/http/HttpStatus", "value", "()I"⟩ : MethodName)) hown (mvT hZ (hw _ (List.mem_of_getElem? (i := 7) rfl))) (mvT hZ (hw _ (List.mem_of_getElem? (i := 8) rfl))) (notFace_of_selects (args := #[]) (mvT hZ (hw _ (List.mem_of_getElem? (i := 10) rfl)))) (mvT hZ (hw _ (List.mem_of_getElem? (i := 10) rfl))) (mvT hZ (hw _ (List.mem_of_getElem? (i := 9) rfl))) (by decide) (backOf (W := 1) (rm2_2 l Z a0 hw w_NOT_MODIFIED h0 n0 O0 P11) hZ (hw _ (List.mem_of_getElem? (i := 11) rfl)) (hw _ (List.mem_of_getElem? (i := 3) rfl)) (by decide) (by decide)) q6a q6c (g := (mkF m 24 #[.val (.int p1)] [(.ref w_NOT_MODIFIED), (.int p1)])) rfl (by rw [hml]; rfl) (Steps.refl _) (argsL := []) (rest := [(.int p1)]) (lenOf pd_2 rfl) rfl (by show 2 * 0 + _ ≤ _; exact Nat.le_of_eq rfl) (hb hby d1_24) (fun _ _ => ⟨rfl, e5, (by decide : 0 + 0 ≤ _), (by decide : 0 + 0 ≤ _)⟩)
  dsimp only [Pt.U, Pt.locs, Pt.cells, Pt.slots] at X6 l6 y6 z6 st6 hQ6
  subst l6 y6 z6
  obtain ⟨rfl, N6q, e6⟩ := hQ6
  have N6 := Fr.app N4 N6q
  obtain ⟨fs, hr, hrun, hended, hW, hsame⟩ := X6.leave (v := (some (.int (0 : Int32)))) (fun h => by rw [Bd.returns] at h; cases h)
  refine ⟨_, _, pre0 _ ?_, hrun, hended, _, _, rfl, ?_, ⟨_, rfl⟩, hW, hsame.mono (by decide) (by decide)⟩
  · show Steps p.tables e below (s₁.setTop (mkF m 0 #[.val (.int p1)] [])) _
    refine XS.iloadN X0.here hx rfl (hb hby d1_0) rfl ?_
    show Steps p.tables e below (s₁.setTop (mkF m 1 #[.val (.int p1)] [(.int p1)])) _
    refine st1 _ ?_
    show Steps p.tables e below (T1.setTop (mkF m 4 #[.val (.int p1)] [(.ref w_OK), (.int p1)])) _
    refine st2.trans ?_
    show Steps p.tables e below (T2.setTop (mkF m 7 #[.val (.int p1)] [(.int (200 : Int32)), (.int p1)])) _
    refine XS.icmpNo X2.here hx rfl (hb hby d1_7) rfl (flt P4).1 ?_
    show Steps p.tables e below (T2.setTop (mkF m 10 #[.val (.int p1)] [])) _
    refine XS.iloadN X2.here hx rfl (hb hby d1_10) rfl ?_
    show Steps p.tables e below (T2.setTop (mkF m 11 #[.val (.int p1)] [(.int p1)])) _
    refine st3 _ ?_
    show Steps p.tables e below (T3.setTop (mkF m 14 #[.val (.int p1)] [(.ref w_NO_CONTENT), (.int p1)])) _
    refine st4.trans ?_
    show Steps p.tables e below (T4.setTop (mkF m 17 #[.val (.int p1)] [(.int (204 : Int32)), (.int p1)])) _
    refine XS.icmpNo X4.here hx rfl (hb hby d1_17) rfl (feq P8).1 ?_
    show Steps p.tables e below (T4.setTop (mkF m 20 #[.val (.int p1)] [])) _
    refine XS.iloadN X4.here hx rfl (hb hby d1_20) rfl ?_
    show Steps p.tables e below (T4.setTop (mkF m 21 #[.val (.int p1)] [(.int p1)])) _
    refine st5 _ ?_
    show Steps p.tables e below (T5.setTop (mkF m 24 #[.val (.int p1)] [(.ref w_NOT_MODIFIED), (.int p1)])) _
    refine st6.trans ?_
    show Steps p.tables e below (T6.setTop (mkF m 27 #[.val (.int p1)] [(.int (304 : Int32)), (.int p1)])) _
    refine XS.icmpYes X6.here hx rfl (pc0 := 27) (pc' := 34) rfl (hb hby d1_27) rfl (teq P12).1 (by decide) (by decide) ?_
    show Steps p.tables e below (T6.setTop (mkF m 34 #[.val (.int p1)] [])) _
    refine XS.iconst X6.here hx rfl (hb hby d1_34) ?_
    show Steps p.tables e below (T6.setTop (mkF m 35 #[.val (.int p1)] [(.int (0 : Int32))])) _
    exact retN X6 hx (t := .boolean) Bd.returns (by simp) (hb hby d1_35) hr
  · show own_QP (some (.int (0 : Int32))) n0 h0 _ T6.heap _
    rw [e6]
    exact ⟨rfl, N6, rfl⟩
set_option maxRecDepth 65536 in
set_option maxHeartbeats 40000000 in
theorem law_2 (l : Launch) (Z : State) (a0 : Array Value) (hw : ∀ d ∈ tables_1, d.before a0 Z = true) (ws : List Jvm.Cond) (p1 : Int32) (w_OK : Addr) (w_NO_CONTENT : Addr) (w_NOT_MODIFIED : Addr) (h0 : Heap) (n0 : Nat) (O0 : Old Z n0 h0) (P1 : ¬ ((((100 : Int32) + ((p1 &&& (2147483647 : Int32)) % (500 : Int32))) / (100 : Int32)) = (1 : Int32))) (P2 : ¬ (((100 : Int32) + ((p1 &&& (2147483647 : Int32)) % (500 : Int32))) = (204 : Int32))) (P3 : ((100 : Int32) + ((p1 &&& (2147483647 : Int32)) % (500 : Int32))) = (304 : Int32)) (P4 : Sta Z Z.heap "com/example/calm_current/calmcurrent/http/HttpStatus" "OK" "Lcom/example/calm_current/calmcurrent/http/HttpStatus;" (.ref w_OK)) (P5 : Exa Z Z.heap w_OK "com/example/calm_current/calmcurrent/http/HttpStatus") (P6 : Fld Z Z.heap w_OK "com/example/calm_current/calmcurrent/http/HttpStatus" "_value" "I" (.int (200 : Int32))) (P7 : ¬ (((100 : Int32) + ((p1 &&& (2147483647 : Int32)) % (500 : Int32))) < (200 : Int32))) (P8 : Sta Z Z.heap "com/example/calm_current/calmcurrent/http/HttpStatus" "NO_CONTENT" "Lcom/example/calm_current/calmcurrent/http/HttpStatus;" (.ref w_NO_CONTENT)) (P9 : Exa Z Z.heap w_NO_CONTENT "com/example/calm_current/calmcurrent/http/HttpStatus") (P10 : Fld Z Z.heap w_NO_CONTENT "com/example/calm_current/calmcurrent/http/HttpStatus" "_value" "I" (.int (204 : Int32))) (P11 : Sta Z Z.heap "com/example/calm_current/calmcurrent/http/HttpStatus" "NOT_MODIFIED" "Lcom/example/calm_current/calmcurrent/http/HttpStatus;" (.ref w_NOT_MODIFIED)) (P12 : Exa Z Z.heap w_NOT_MODIFIED "com/example/calm_current/calmcurrent/http/HttpStatus") (P13 : Fld Z Z.heap w_NOT_MODIFIED "com/example/calm_current/calmcurrent/http/HttpStatus" "_value" "I" (.int (304 : Int32))) :
    MetFree l x (head1 (Jvm.Cond.code x code maxLocals ret :: ws) room_1) (fun a U => a = #[(.int p1)] ∧ Z.Warmed39 U.vm ∧ U.heap = h0) (fun _ _ _ _ _ => True) (fun _ U o U' => ∃ v L, o = .returned v ∧ own_Q1 n0 v U'.heap L ∧ FrameEnd U o U' L room_1.cells room_1.slots) := by
  refine MetFree.of_bodySF (plainFor_of_name pn_5) hisR ?_
  intro p e s m args below meth c s₁ Bd hml0 hP hK
  obtain ⟨rfl, hZ, hh⟩ := hP
  have hx := Bd.exec
  have hby := Bd.bytes
  have hml : c.maxLocals = 4 := hml0
  have hown : s.vm.findClass "com/example/calm_current/calmcurrent/http/HttpStatusMayHaveContentLengthPinLaw" = some m.cls := findClass_of_methodNamed Bd.named
  have hnm := (name_of_methodNamed Bd.named Bd.method).1
  have X0 : Stand p l e room_1 s m #[(.int p1)] below meth c s₁ [] 0 0 := Stand.of_body Bd
  have e0 : s₁.heap = h0 := by rw [← hh, Bd.state]; rfl
  have N0 := Fr.nil n0
  have pre0 : ∀ t, Steps p.tables e below (s₁.setTop (mkF m 0 #[.val (.int p1), .unset, .unset, .unset] [])) t → Steps p.tables e below (s₁.setTop (entryFrame m #[(.int p1)] maxLocals)) t := fun t k => castTop (ef_0_I m p1) k
  obtain ⟨_, _, ⟨T1, L1, k1, n1⟩, -, X1, ⟨Lc1, hQ1, l1, y1, z1⟩, st1⟩ := Jvm.LawKit.callS X0 hx (y := (⟨"com/example/calm_current/calmcurrent/http/HttpStatus", "mayHaveContentLength", "(I)Z"⟩ : MethodName)) hown (mvT hZ (hw _ (List.mem_of_getElem? (i := 1) rfl))) (mvT hZ (hw _ (List.mem_of_getElem? (i := 2) rfl))) (mvT hZ (hw _ (List.mem_of_getElem? (i := 3) rfl))) (mvT hZ (hw _ (List.mem_of_getElem? (i := 4) rfl))) (by decide) (backOf (W := 0) (rm1_2 l Z a0 hw ((100 : Int32) + ((p1 &&& (2147483647 : Int32)) % (500 : Int32))) w_OK w_NO_CONTENT w_NOT_MODIFIED h0 n0 O0 P4 P5 P6 P7 P8 P9 P10 P2 P11 P12 P13 P3) hZ (hw _ (List.mem_of_getElem? (i := 4) rfl)) (hw _ (List.mem_of_getElem? (i := 3) rfl)) (by decide) (by decide)) (g := (mkF m 54 #[.val (.int p1), .val (.int ((100 : Int32) + ((p1 &&& (2147483647 : Int32)) % (500 : Int32)))), .val (.int (((100 : Int32) + ((p1 &&& (2147483647 : Int32)) % (500 : Int32))) / (100 : Int32))), .val (.int (0 : Int32))] [(.int ((100 : Int32) + ((p1 &&& (2147483647 : Int32)) % (500 : Int32))))])) rfl (by rw [hml]; rfl) (argsL := [(.int ((100 : Int32) + ((p1 &&& (2147483647 : Int32)) % (500 : Int32))))]) (rest := []) (lenOf pd_4 rfl) rfl (by show 2 * 0 + _ ≤ _; exact Nat.le_of_eq rfl) (hb hby at_54) (fun _ _ => ⟨rfl, e0, (by decide : 0 + 0 ≤ _), (by decide : 0 + 0 ≤ _)⟩)
  dsimp only [Pt.U, Pt.locs, Pt.cells, Pt.slots] at X1 l1 y1 z1 st1 hQ1
  subst l1 y1 z1
  obtain ⟨rfl, N1q, e1⟩ := hQ1
  have N1 := Fr.app N0 N1q
  obtain ⟨fs, hr, hrun, hended, hW, hsame⟩ := X1.leave (v := some (.int (1 : Int32))) (fun h => by rw [Bd.returns] at h; cases h)
  refine ⟨_, _, pre0 _ ?_, hrun, hended, _, _, rfl, ?_, ⟨_, rfl⟩, hW, hsame.mono (by decide) (by decide)⟩
  · show Steps p.tables e below (s₁.setTop (mkF m 0 #[.val (.int p1), .unset, .unset, .unset] [])) _
    refine XS.bipush X0.here hx rfl (hb hby at_0) ?_
    show Steps p.tables e below (s₁.setTop (mkF m 2 #[.val (.int p1), .unset, .unset, .unset] [(.int (100 : Int32))])) _
    refine XS.iloadN X0.here hx rfl (hb hby at_2) rfl ?_
    show Steps p.tables e below (s₁.setTop (mkF m 3 #[.val (.int p1), .unset, .unset, .unset] [(.int p1), (.int (100 : Int32))])) _
    refine X0.ldcInt hx hown (mvT hZ (hw _ (List.mem_of_getElem? (i := 0) rfl))) (g := (mkF m 3 #[.val (.int p1), .unset, .unset, .unset] [(.int p1), (.int (100 : Int32))])) rfl (hb hby at_3) _ ?_
    show Steps p.tables e below (s₁.setTop (mkF m 5 #[.val (.int p1), .unset, .unset, .unset] [(.int (2147483647 : Int32)), (.int p1), (.int (100 : Int32))])) _
    refine XS.iand X0.here hx rfl (hb hby at_5) rfl ?_
    show Steps p.tables e below (s₁.setTop (mkF m 6 #[.val (.int p1), .unset, .unset, .unset] [(.int (p1 &&& (2147483647 : Int32))), (.int (100 : Int32))])) _
    refine XS.sipush X0.here hx rfl (hb hby at_6) ?_
    show Steps p.tables e below (s₁.setTop (mkF m 9 #[.val (.int p1), .unset, .unset, .unset] [(.int (500 : Int32)), (.int (p1 &&& (2147483647 : Int32))), (.int (100 : Int32))])) _
    refine iremM (g := (mkF m 9 #[.val (.int p1), .unset, .unset, .unset] [(.int (500 : Int32)), (.int (p1 &&& (2147483647 : Int32))), (.int (100 : Int32))])) X0 hx rfl (hb hby at_9) rfl (by decide) ?_
    show Steps p.tables e below (s₁.setTop (mkF m 10 #[.val (.int p1), .unset, .unset, .unset] [(.int ((p1 &&& (2147483647 : Int32)) % (500 : Int32))), (.int (100 : Int32))])) _
    refine XS.iadd X0.here hx rfl (hb hby at_10) rfl ?_
    show Steps p.tables e below (s₁.setTop (mkF m 11 #[.val (.int p1), .unset, .unset, .unset] [(.int ((100 : Int32) + ((p1 &&& (2147483647 : Int32)) % (500 : Int32))))])) _
    refine XS.istoreN X0.here hx rfl (hb hby at_11) rfl (l' := #[.val (.int p1), .val (.int ((100 : Int32) + ((p1 &&& (2147483647 : Int32)) % (500 : Int32)))), .unset, .unset]) rfl ?_
    show Steps p.tables e below (s₁.setTop (mkF m 12 #[.val (.int p1), .val (.int ((100 : Int32) + ((p1 &&& (2147483647 : Int32)) % (500 : Int32)))), .unset, .unset] [])) _
    refine XS.iloadN X0.here hx rfl (hb hby at_12) rfl ?_
    show Steps p.tables e below (s₁.setTop (mkF m 13 #[.val (.int p1), .val (.int ((100 : Int32) + ((p1 &&& (2147483647 : Int32)) % (500 : Int32)))), .unset, .unset] [(.int ((100 : Int32) + ((p1 &&& (2147483647 : Int32)) % (500 : Int32))))])) _
    refine XS.bipush X0.here hx rfl (hb hby at_13) ?_
    show Steps p.tables e below (s₁.setTop (mkF m 15 #[.val (.int p1), .val (.int ((100 : Int32) + ((p1 &&& (2147483647 : Int32)) % (500 : Int32)))), .unset, .unset] [(.int (100 : Int32)), (.int ((100 : Int32) + ((p1 &&& (2147483647 : Int32)) % (500 : Int32))))])) _
    refine XS.idiv X0.here hx rfl (hb hby at_15) rfl (by decide) ?_
    show Steps p.tables e below (s₁.setTop (mkF m 16 #[.val (.int p1), .val (.int ((100 : Int32) + ((p1 &&& (2147483647 : Int32)) % (500 : Int32)))), .unset, .unset] [(.int (((100 : Int32) + ((p1 &&& (2147483647 : Int32)) % (500 : Int32))) / (100 : Int32)))])) _
    refine XS.istoreN X0.here hx rfl (hb hby at_16) rfl (l' := #[.val (.int p1), .val (.int ((100 : Int32) + ((p1 &&& (2147483647 : Int32)) % (500 : Int32)))), .val (.int (((100 : Int32) + ((p1 &&& (2147483647 : Int32)) % (500 : Int32))) / (100 : Int32))), .unset]) rfl ?_
    show Steps p.tables e below (s₁.setTop (mkF m 17 #[.val (.int p1), .val (.int ((100 : Int32) + ((p1 &&& (2147483647 : Int32)) % (500 : Int32)))), .val (.int (((100 : Int32) + ((p1 &&& (2147483647 : Int32)) % (500 : Int32))) / (100 : Int32))), .unset] [])) _
    refine XS.iloadN X0.here hx rfl (hb hby at_17) rfl ?_
    show Steps p.tables e below (s₁.setTop (mkF m 18 #[.val (.int p1), .val (.int ((100 : Int32) + ((p1 &&& (2147483647 : Int32)) % (500 : Int32)))), .val (.int (((100 : Int32) + ((p1 &&& (2147483647 : Int32)) % (500 : Int32))) / (100 : Int32))), .unset] [(.int (((100 : Int32) + ((p1 &&& (2147483647 : Int32)) % (500 : Int32))) / (100 : Int32)))])) _
    refine XS.iconst X0.here hx rfl (hb hby at_18) ?_
    show Steps p.tables e below (s₁.setTop (mkF m 19 #[.val (.int p1), .val (.int ((100 : Int32) + ((p1 &&& (2147483647 : Int32)) % (500 : Int32)))), .val (.int (((100 : Int32) + ((p1 &&& (2147483647 : Int32)) % (500 : Int32))) / (100 : Int32))), .unset] [(.int (1 : Int32)), (.int (((100 : Int32) + ((p1 &&& (2147483647 : Int32)) % (500 : Int32))) / (100 : Int32)))])) _
    refine XS.icmpYes X0.here hx rfl (pc0 := 19) (pc' := 27) rfl (hb hby at_19) rfl (feq P1).2 (by decide) (by decide) ?_
    show Steps p.tables e below (s₁.setTop (mkF m 27 #[.val (.int p1), .val (.int ((100 : Int32) + ((p1 &&& (2147483647 : Int32)) % (500 : Int32)))), .val (.int (((100 : Int32) + ((p1 &&& (2147483647 : Int32)) % (500 : Int32))) / (100 : Int32))), .unset] [])) _
    refine XS.iloadN X0.here hx rfl (hb hby at_27) rfl ?_
    show Steps p.tables e below (s₁.setTop (mkF m 28 #[.val (.int p1), .val (.int ((100 : Int32) + ((p1 &&& (2147483647 : Int32)) % (500 : Int32)))), .val (.int (((100 : Int32) + ((p1 &&& (2147483647 : Int32)) % (500 : Int32))) / (100 : Int32))), .unset] [(.int ((100 : Int32) + ((p1 &&& (2147483647 : Int32)) % (500 : Int32))))])) _
    refine XS.sipush X0.here hx rfl (hb hby at_28) ?_
    show Steps p.tables e below (s₁.setTop (mkF m 31 #[.val (.int p1), .val (.int ((100 : Int32) + ((p1 &&& (2147483647 : Int32)) % (500 : Int32)))), .val (.int (((100 : Int32) + ((p1 &&& (2147483647 : Int32)) % (500 : Int32))) / (100 : Int32))), .unset] [(.int (204 : Int32)), (.int ((100 : Int32) + ((p1 &&& (2147483647 : Int32)) % (500 : Int32))))])) _
    refine XS.icmpYes X0.here hx rfl (pc0 := 31) (pc' := 39) rfl (hb hby at_31) rfl (feq P2).2 (by decide) (by decide) ?_
    show Steps p.tables e below (s₁.setTop (mkF m 39 #[.val (.int p1), .val (.int ((100 : Int32) + ((p1 &&& (2147483647 : Int32)) % (500 : Int32)))), .val (.int (((100 : Int32) + ((p1 &&& (2147483647 : Int32)) % (500 : Int32))) / (100 : Int32))), .unset] [])) _
    refine XS.iloadN X0.here hx rfl (hb hby at_39) rfl ?_
    show Steps p.tables e below (s₁.setTop (mkF m 40 #[.val (.int p1), .val (.int ((100 : Int32) + ((p1 &&& (2147483647 : Int32)) % (500 : Int32)))), .val (.int (((100 : Int32) + ((p1 &&& (2147483647 : Int32)) % (500 : Int32))) / (100 : Int32))), .unset] [(.int ((100 : Int32) + ((p1 &&& (2147483647 : Int32)) % (500 : Int32))))])) _
    refine XS.sipush X0.here hx rfl (hb hby at_40) ?_
    show Steps p.tables e below (s₁.setTop (mkF m 43 #[.val (.int p1), .val (.int ((100 : Int32) + ((p1 &&& (2147483647 : Int32)) % (500 : Int32)))), .val (.int (((100 : Int32) + ((p1 &&& (2147483647 : Int32)) % (500 : Int32))) / (100 : Int32))), .unset] [(.int (304 : Int32)), (.int ((100 : Int32) + ((p1 &&& (2147483647 : Int32)) % (500 : Int32))))])) _
    refine XS.icmpNo X0.here hx rfl (hb hby at_43) rfl (teq P3).2 ?_
    show Steps p.tables e below (s₁.setTop (mkF m 46 #[.val (.int p1), .val (.int ((100 : Int32) + ((p1 &&& (2147483647 : Int32)) % (500 : Int32)))), .val (.int (((100 : Int32) + ((p1 &&& (2147483647 : Int32)) % (500 : Int32))) / (100 : Int32))), .unset] [])) _
    refine XS.iconst X0.here hx rfl (hb hby at_46) ?_
    show Steps p.tables e below (s₁.setTop (mkF m 47 #[.val (.int p1), .val (.int ((100 : Int32) + ((p1 &&& (2147483647 : Int32)) % (500 : Int32)))), .val (.int (((100 : Int32) + ((p1 &&& (2147483647 : Int32)) % (500 : Int32))) / (100 : Int32))), .unset] [(.int (0 : Int32))])) _
    refine XS.istoreN X0.here hx rfl (hb hby at_47) rfl (l' := #[.val (.int p1), .val (.int ((100 : Int32) + ((p1 &&& (2147483647 : Int32)) % (500 : Int32)))), .val (.int (((100 : Int32) + ((p1 &&& (2147483647 : Int32)) % (500 : Int32))) / (100 : Int32))), .val (.int (0 : Int32))]) rfl ?_
    show Steps p.tables e below (s₁.setTop (mkF m 48 #[.val (.int p1), .val (.int ((100 : Int32) + ((p1 &&& (2147483647 : Int32)) % (500 : Int32)))), .val (.int (((100 : Int32) + ((p1 &&& (2147483647 : Int32)) % (500 : Int32))) / (100 : Int32))), .val (.int (0 : Int32))] [])) _
    refine XS.goto X0.here hx rfl (pc0 := 48) (pc' := 53) rfl (hb hby at_48) (by decide) (by decide) ?_
    show Steps p.tables e below (s₁.setTop (mkF m 53 #[.val (.int p1), .val (.int ((100 : Int32) + ((p1 &&& (2147483647 : Int32)) % (500 : Int32)))), .val (.int (((100 : Int32) + ((p1 &&& (2147483647 : Int32)) % (500 : Int32))) / (100 : Int32))), .val (.int (0 : Int32))] [])) _
    refine XS.iloadN X0.here hx rfl (hb hby at_53) rfl ?_
    show Steps p.tables e below (s₁.setTop (mkF m 54 #[.val (.int p1), .val (.int ((100 : Int32) + ((p1 &&& (2147483647 : Int32)) % (500 : Int32)))), .val (.int (((100 : Int32) + ((p1 &&& (2147483647 : Int32)) % (500 : Int32))) / (100 : Int32))), .val (.int (0 : Int32))] [(.int ((100 : Int32) + ((p1 &&& (2147483647 : Int32)) % (500 : Int32))))])) _
    refine st1 _ ?_
    show Steps p.tables e below (T1.setTop (mkF m 57 #[.val (.int p1), .val (.int ((100 : Int32) + ((p1 &&& (2147483647 : Int32)) % (500 : Int32)))), .val (.int (((100 : Int32) + ((p1 &&& (2147483647 : Int32)) % (500 : Int32))) / (100 : Int32))), .val (.int (0 : Int32))] [(.int (0 : Int32))])) _
    refine XS.iloadN X1.here hx rfl (hb hby at_57) rfl ?_
    show Steps p.tables e below (T1.setTop (mkF m 58 #[.val (.int p1), .val (.int ((100 : Int32) + ((p1 &&& (2147483647 : Int32)) % (500 : Int32)))), .val (.int (((100 : Int32) + ((p1 &&& (2147483647 : Int32)) % (500 : Int32))) / (100 : Int32))), .val (.int (0 : Int32))] [(.int (0 : Int32)), (.int (0 : Int32))])) _
    refine XS.icmpNo X1.here hx rfl (hb hby at_58) rfl (by decide) ?_
    show Steps p.tables e below (T1.setTop (mkF m 61 #[.val (.int p1), .val (.int ((100 : Int32) + ((p1 &&& (2147483647 : Int32)) % (500 : Int32)))), .val (.int (((100 : Int32) + ((p1 &&& (2147483647 : Int32)) % (500 : Int32))) / (100 : Int32))), .val (.int (0 : Int32))] [])) _
    refine XS.iconst X1.here hx rfl (hb hby at_61) ?_
    show Steps p.tables e below (T1.setTop (mkF m 62 #[.val (.int p1), .val (.int ((100 : Int32) + ((p1 &&& (2147483647 : Int32)) % (500 : Int32)))), .val (.int (((100 : Int32) + ((p1 &&& (2147483647 : Int32)) % (500 : Int32))) / (100 : Int32))), .val (.int (0 : Int32))] [(.int (1 : Int32))])) _
    refine XS.goto X1.here hx rfl (pc0 := 62) (pc' := 66) rfl (hb hby at_62) (by decide) (by decide) ?_
    show Steps p.tables e below (T1.setTop (mkF m 66 #[.val (.int p1), .val (.int ((100 : Int32) + ((p1 &&& (2147483647 : Int32)) % (500 : Int32)))), .val (.int (((100 : Int32) + ((p1 &&& (2147483647 : Int32)) % (500 : Int32))) / (100 : Int32))), .val (.int (0 : Int32))] [(.int (1 : Int32))])) _
    exact retN X1 hx (t := .boolean) Bd.returns (by simp) (hb hby at_66) hr
  · show own_Q1 n0 _ T1.heap _
    rw [e1]
    exact ⟨rfl, N1⟩
set_option maxRecDepth 65536 in
set_option maxHeartbeats 40000000 in
theorem rm1_3 (l : Launch) (Z : State) (a0 : Array Value) (hw : ∀ d ∈ tables_1, d.before a0 Z = true) (p1 : Int32) (w_OK : Addr) (w_NO_CONTENT : Addr) (w_NOT_MODIFIED : Addr) (h0 : Heap) (n0 : Nat) (O0 : Old Z n0 h0) (P1 : Sta Z Z.heap "com/example/calm_current/calmcurrent/http/HttpStatus" "OK" "Lcom/example/calm_current/calmcurrent/http/HttpStatus;" (.ref w_OK)) (P2 : Exa Z Z.heap w_OK "com/example/calm_current/calmcurrent/http/HttpStatus") (P3 : Fld Z Z.heap w_OK "com/example/calm_current/calmcurrent/http/HttpStatus" "_value" "I" (.int (200 : Int32))) (P4 : ¬ (p1 < (200 : Int32))) (P5 : Sta Z Z.heap "com/example/calm_current/calmcurrent/http/HttpStatus" "NO_CONTENT" "Lcom/example/calm_current/calmcurrent/http/HttpStatus;" (.ref w_NO_CONTENT)) (P6 : Exa Z Z.heap w_NO_CONTENT "com/example/calm_current/calmcurrent/http/HttpStatus") (P7 : Fld Z Z.heap w_NO_CONTENT "com/example/calm_current/calmcurrent/http/HttpStatus" "_value" "I" (.int (204 : Int32))) (P8 : ¬ (p1 = (204 : Int32))) (P9 : Sta Z Z.heap "com/example/calm_current/calmcurrent/http/HttpStatus" "NOT_MODIFIED" "Lcom/example/calm_current/calmcurrent/http/HttpStatus;" (.ref w_NOT_MODIFIED)) (P10 : Exa Z Z.heap w_NOT_MODIFIED "com/example/calm_current/calmcurrent/http/HttpStatus") (P11 : Fld Z Z.heap w_NOT_MODIFIED "com/example/calm_current/calmcurrent/http/HttpStatus" "_value" "I" (.int (304 : Int32))) (P12 : ¬ (p1 = (304 : Int32))) :
    MetFree l (⟨"com/example/calm_current/calmcurrent/http/HttpStatus", "mayHaveContentLength", "(I)Z"⟩ : MethodName) (head1 [Jvm.Cond.code (⟨"com/example/calm_current/calmcurrent/http/HttpStatus", "mayHaveContentLength", "(I)Z"⟩ : MethodName) prog_14_method_5_code 1 (some .boolean)] ({ frames := 1, cells := 0, slots := 0, locals := 13 } : Room)) (fun a U => a = #[(.int p1)] ∧ Z.Warmed39 U.vm ∧ U.heap = h0) (fun _ _ _ _ _ => True) (fun _ U o U' => ∃ v L, o = .returned v ∧ own_QP (some (.int (1 : Int32))) n0 h0 v U'.heap L ∧ FrameEnd U o U' L ({ frames := 1, cells := 0, slots := 0, locals := 13 } : Room).cells ({ frames := 1, cells := 0, slots := 0, locals := 13 } : Room).slots) := by
  refine MetFree.of_bodySF (plainFor_of_name pn_0) hisR ?_
  intro p e s m args below meth c s₁ Bd hml0 hP hK
  obtain ⟨rfl, hZ, hh⟩ := hP
  have hx := Bd.exec
  have hby := Bd.bytes
  have hml : c.maxLocals = 1 := hml0
  have hown : s.vm.findClass "com/example/calm_current/calmcurrent/http/HttpStatus" = some m.cls := findClass_of_methodNamed Bd.named
  have hnm := (name_of_methodNamed Bd.named Bd.method).1
  have X0 : Stand p l e ({ frames := 1, cells := 0, slots := 0, locals := 13 } : Room) s m #[(.int p1)] below meth c s₁ [] 0 0 := Stand.of_body Bd
  have e0 : s₁.heap = h0 := by rw [← hh, Bd.state]; rfl
  have N0 := Fr.nil n0
  have pre0 : ∀ t, Steps p.tables e below (s₁.setTop (mkF m 0 #[.val (.int p1)] [])) t → Steps p.tables e below (s₁.setTop (entryFrame m #[(.int p1)] 1)) t := fun t k => castTop (ef_1_I m p1) k
  obtain ⟨T1, X1, e1, st1⟩ := getS2 X0 hx hZ hown (host := "") (Or.inl (hw _ (List.mem_of_getElem? (i := 5) rfl))) Via.refl e0 (P1.ext O0.2) (g := (mkF m 1 #[.val (.int p1)] [(.int p1)])) rfl (hb hby d1_1)
  obtain ⟨cq2, kq2, q2a, q2b, q2c⟩ := isOf hZ e1 (P2.ext O0.2)
  obtain ⟨_, _, ⟨T2, L2, k2, n2⟩, -, X2, ⟨Lc2, hQ2, l2, y2, z2⟩, st2⟩ := X1.virtualBack hx (y := (⟨"com/example/calm_current/calmcurrent/http/HttpStatus", "value", "()I"⟩ : MethodName)) (z := (⟨"com/example/calm_current/calmcurrent/http/HttpStatus", "value", "()I"⟩ : MethodName)) hown (mvT hZ (hw _ (List.mem_of_getElem? (i := 7) rfl))) (mvT hZ (hw _ (List.mem_of_getElem? (i := 8) rfl))) (notFace_of_selects (args := #[]) (mvT hZ (hw _ (List.mem_of_getElem? (i := 10) rfl)))) (mvT hZ (hw _ (List.mem_of_getElem? (i := 10) rfl))) (mvT hZ (hw _ (List.mem_of_getElem? (i := 9) rfl))) (by decide) (backOf (W := 1) (rm2_0 l Z a0 hw w_OK h0 n0 O0 P3) hZ (hw _ (List.mem_of_getElem? (i := 11) rfl)) (hw _ (List.mem_of_getElem? (i := 3) rfl)) (by decide) (by decide)) q2a q2c (g := (mkF m 4 #[.val (.int p1)] [(.ref w_OK), (.int p1)])) rfl (by rw [hml]; rfl) (Steps.refl _) (argsL := []) (rest := [(.int p1)]) (lenOf pd_2 rfl) rfl (by show 2 * 0 + _ ≤ _; exact Nat.le_of_eq rfl) (hb hby d1_4) (fun _ _ => ⟨rfl, e1, (by decide : 0 + 0 ≤ _), (by decide : 0 + 0 ≤ _)⟩)
  dsimp only [Pt.U, Pt.locs, Pt.cells, Pt.slots] at X2 l2 y2 z2 st2 hQ2
  subst l2 y2 z2
  obtain ⟨rfl, N2q, e2⟩ := hQ2
  have N2 := Fr.app N0 N2q
  obtain ⟨T3, X3, e3, st3⟩ := getS2 X2 hx hZ hown (host := "") (Or.inl (hw _ (List.mem_of_getElem? (i := 14) rfl))) Via.refl e2 (P5.ext O0.2) (g := (mkF m 11 #[.val (.int p1)] [(.int p1)])) rfl (hb hby d1_11)
  obtain ⟨cq4, kq4, q4a, q4b, q4c⟩ := isOf hZ e3 (P6.ext O0.2)
  obtain ⟨_, _, ⟨T4, L4, k4, n4⟩, -, X4, ⟨Lc4, hQ4, l4, y4, z4⟩, st4⟩ := X3.virtualBack hx (y := (⟨"com/example/calm_current/calmcurrent/http/HttpStatus", "value", "()I"⟩ : MethodName)) (z := (⟨"com/example/calm_current/calmcurrent/http/HttpStatus", "value", "()I"⟩ : MethodName)) hown (mvT hZ (hw _ (List.mem_of_getElem? (i := 7) rfl))) (mvT hZ (hw _ (List.mem_of_getElem? (i := 8) rfl))) (notFace_of_selects (args := #[]) (mvT hZ (hw _ (List.mem_of_getElem? (i := 10) rfl)))) (mvT hZ (hw _ (List.mem_of_getElem? (i := 10) rfl))) (mvT hZ (hw _ (List.mem_of_getElem? (i := 9) rfl))) (by decide) (backOf (W := 1) (rm2_1 l Z a0 hw w_NO_CONTENT h0 n0 O0 P7) hZ (hw _ (List.mem_of_getElem? (i := 11) rfl)) (hw _ (List.mem_of_getElem? (i := 3) rfl)) (by decide) (by decide)) q4a q4c (g := (mkF m 14 #[.val (.int p1)] [(.ref w_NO_CONTENT), (.int p1)])) rfl (by rw [hml]; rfl) (Steps.refl _) (argsL := []) (rest := [(.int p1)]) (lenOf pd_2 rfl) rfl (by show 2 * 0 + _ ≤ _; exact Nat.le_of_eq rfl) (hb hby d1_14) (fun _ _ => ⟨rfl, e3, (by decide : 0 + 0 ≤ _), (by decide : 0 + 0 ≤ _)⟩)
  dsimp only [Pt.U, Pt.locs, Pt.cells, Pt.slots] at X4 l4 y4 z4 st4 hQ4
  subst l4 y4 z4
  obtain ⟨rfl, N4q, e4⟩ := hQ4
  have N4 := Fr.app N2 N4q
  obtain ⟨T5, X5, e5, st5⟩ := getS2 X4 hx hZ hown (host := "") (Or.inl (hw _ (List.mem_of_getElem? (i := 16) rfl))) Via.refl e4 (P9.ext O0.2) (g := (mkF m 21 #[.val (.int p1)] [(.int p1)])) rfl (hb hby d1_21)
  obtain ⟨cq6, kq6, q6a, q6b, q6c⟩ := isOf hZ e5 (P10.ext O0.2)
  obtain ⟨_, _, ⟨T6, L6, k6, n6⟩, -, X6, ⟨Lc6, hQ6, l6, y6, z6⟩, st6⟩ := X5.virtualBack hx (y := (⟨"com/example/calm_current/calmcurrent/http/HttpStatus", "value", "()I"⟩ : MethodName)) (z := (⟨"com/example/calm_current/calmcurrent/http/HttpStatus", "value", "()I"⟩ : MethodName)) hown (mvT hZ (hw _ (List.mem_of_getElem? (i := 7) rfl))) (mvT hZ (hw _ (List.mem_of_getElem? (i := 8) rfl))) (notFace_of_selects (args := #[]) (mvT hZ (hw _ (List.mem_of_getElem? (i := 10) rfl)))) (mvT hZ (hw _ (List.mem_of_getElem? (i := 10) rfl))) (mvT hZ (hw _ (List.mem_of_getElem? (i := 9) rfl))) (by decide) (backOf (W := 1) (rm2_2 l Z a0 hw w_NOT_MODIFIED h0 n0 O0 P11) hZ (hw _ (List.mem_of_getElem? (i := 11) rfl)) (hw _ (List.mem_of_getElem? (i := 3) rfl)) (by decide) (by decide)) q6a q6c (g := (mkF m 24 #[.val (.int p1)] [(.ref w_NOT_MODIFIED), (.int p1)])) rfl (by rw [hml]; rfl) (Steps.refl _) (argsL := []) (rest := [(.int p1)]) (lenOf pd_2 rfl) rfl (by show 2 * 0 + _ ≤ _; exact Nat.le_of_eq rfl) (hb hby d1_24) (fun _ _ => ⟨rfl, e5, (by decide : 0 + 0 ≤ _), (by decide : 0 + 0 ≤ _)⟩)
  dsimp only [Pt.U, Pt.locs, Pt.cells, Pt.slots] at X6 l6 y6 z6 st6 hQ6
  subst l6 y6 z6
  obtain ⟨rfl, N6q, e6⟩ := hQ6
  have N6 := Fr.app N4 N6q
  obtain ⟨fs, hr, hrun, hended, hW, hsame⟩ := X6.leave (v := (some (.int (1 : Int32)))) (fun h => by rw [Bd.returns] at h; cases h)
  refine ⟨_, _, pre0 _ ?_, hrun, hended, _, _, rfl, ?_, ⟨_, rfl⟩, hW, hsame.mono (by decide) (by decide)⟩
  · show Steps p.tables e below (s₁.setTop (mkF m 0 #[.val (.int p1)] [])) _
    refine XS.iloadN X0.here hx rfl (hb hby d1_0) rfl ?_
    show Steps p.tables e below (s₁.setTop (mkF m 1 #[.val (.int p1)] [(.int p1)])) _
    refine st1 _ ?_
    show Steps p.tables e below (T1.setTop (mkF m 4 #[.val (.int p1)] [(.ref w_OK), (.int p1)])) _
    refine st2.trans ?_
    show Steps p.tables e below (T2.setTop (mkF m 7 #[.val (.int p1)] [(.int (200 : Int32)), (.int p1)])) _
    refine XS.icmpNo X2.here hx rfl (hb hby d1_7) rfl (flt P4).1 ?_
    show Steps p.tables e below (T2.setTop (mkF m 10 #[.val (.int p1)] [])) _
    refine XS.iloadN X2.here hx rfl (hb hby d1_10) rfl ?_
    show Steps p.tables e below (T2.setTop (mkF m 11 #[.val (.int p1)] [(.int p1)])) _
    refine st3 _ ?_
    show Steps p.tables e below (T3.setTop (mkF m 14 #[.val (.int p1)] [(.ref w_NO_CONTENT), (.int p1)])) _
    refine st4.trans ?_
    show Steps p.tables e below (T4.setTop (mkF m 17 #[.val (.int p1)] [(.int (204 : Int32)), (.int p1)])) _
    refine XS.icmpNo X4.here hx rfl (hb hby d1_17) rfl (feq P8).1 ?_
    show Steps p.tables e below (T4.setTop (mkF m 20 #[.val (.int p1)] [])) _
    refine XS.iloadN X4.here hx rfl (hb hby d1_20) rfl ?_
    show Steps p.tables e below (T4.setTop (mkF m 21 #[.val (.int p1)] [(.int p1)])) _
    refine st5 _ ?_
    show Steps p.tables e below (T5.setTop (mkF m 24 #[.val (.int p1)] [(.ref w_NOT_MODIFIED), (.int p1)])) _
    refine st6.trans ?_
    show Steps p.tables e below (T6.setTop (mkF m 27 #[.val (.int p1)] [(.int (304 : Int32)), (.int p1)])) _
    refine XS.icmpNo X6.here hx rfl (hb hby d1_27) rfl (feq P12).1 ?_
    show Steps p.tables e below (T6.setTop (mkF m 30 #[.val (.int p1)] [])) _
    refine XS.iconst X6.here hx rfl (hb hby d1_30) ?_
    show Steps p.tables e below (T6.setTop (mkF m 31 #[.val (.int p1)] [(.int (1 : Int32))])) _
    refine XS.goto X6.here hx rfl (pc0 := 31) (pc' := 35) rfl (hb hby d1_31) (by decide) (by decide) ?_
    show Steps p.tables e below (T6.setTop (mkF m 35 #[.val (.int p1)] [(.int (1 : Int32))])) _
    exact retN X6 hx (t := .boolean) Bd.returns (by simp) (hb hby d1_35) hr
  · show own_QP (some (.int (1 : Int32))) n0 h0 _ T6.heap _
    rw [e6]
    exact ⟨rfl, N6, rfl⟩
set_option maxRecDepth 65536 in
set_option maxHeartbeats 40000000 in
theorem law_3 (l : Launch) (Z : State) (a0 : Array Value) (hw : ∀ d ∈ tables_1, d.before a0 Z = true) (ws : List Jvm.Cond) (p1 : Int32) (w_OK : Addr) (w_NO_CONTENT : Addr) (w_NOT_MODIFIED : Addr) (h0 : Heap) (n0 : Nat) (O0 : Old Z n0 h0) (P1 : ¬ ((((100 : Int32) + ((p1 &&& (2147483647 : Int32)) % (500 : Int32))) / (100 : Int32)) = (1 : Int32))) (P2 : ¬ (((100 : Int32) + ((p1 &&& (2147483647 : Int32)) % (500 : Int32))) = (204 : Int32))) (P3 : ¬ (((100 : Int32) + ((p1 &&& (2147483647 : Int32)) % (500 : Int32))) = (304 : Int32))) (P4 : Sta Z Z.heap "com/example/calm_current/calmcurrent/http/HttpStatus" "OK" "Lcom/example/calm_current/calmcurrent/http/HttpStatus;" (.ref w_OK)) (P5 : Exa Z Z.heap w_OK "com/example/calm_current/calmcurrent/http/HttpStatus") (P6 : Fld Z Z.heap w_OK "com/example/calm_current/calmcurrent/http/HttpStatus" "_value" "I" (.int (200 : Int32))) (P7 : ¬ (((100 : Int32) + ((p1 &&& (2147483647 : Int32)) % (500 : Int32))) < (200 : Int32))) (P8 : Sta Z Z.heap "com/example/calm_current/calmcurrent/http/HttpStatus" "NO_CONTENT" "Lcom/example/calm_current/calmcurrent/http/HttpStatus;" (.ref w_NO_CONTENT)) (P9 : Exa Z Z.heap w_NO_CONTENT "com/example/calm_current/calmcurrent/http/HttpStatus") (P10 : Fld Z Z.heap w_NO_CONTENT "com/example/calm_current/calmcurrent/http/HttpStatus" "_value" "I" (.int (204 : Int32))) (P11 : Sta Z Z.heap "com/example/calm_current/calmcurrent/http/HttpStatus" "NOT_MODIFIED" "Lcom/example/calm_current/calmcurrent/http/HttpStatus;" (.ref w_NOT_MODIFIED)) (P12 : Exa Z Z.heap w_NOT_MODIFIED "com/example/calm_current/calmcurrent/http/HttpStatus") (P13 : Fld Z Z.heap w_NOT_MODIFIED "com/example/calm_current/calmcurrent/http/HttpStatus" "_value" "I" (.int (304 : Int32))) :
    MetFree l x (head1 (Jvm.Cond.code x code maxLocals ret :: ws) room_1) (fun a U => a = #[(.int p1)] ∧ Z.Warmed39 U.vm ∧ U.heap = h0) (fun _ _ _ _ _ => True) (fun _ U o U' => ∃ v L, o = .returned v ∧ own_Q1 n0 v U'.heap L ∧ FrameEnd U o U' L room_1.cells room_1.slots) := by
  refine MetFree.of_bodySF (plainFor_of_name pn_5) hisR ?_
  intro p e s m args below meth c s₁ Bd hml0 hP hK
  obtain ⟨rfl, hZ, hh⟩ := hP
  have hx := Bd.exec
  have hby := Bd.bytes
  have hml : c.maxLocals = 4 := hml0
  have hown : s.vm.findClass "com/example/calm_current/calmcurrent/http/HttpStatusMayHaveContentLengthPinLaw" = some m.cls := findClass_of_methodNamed Bd.named
  have hnm := (name_of_methodNamed Bd.named Bd.method).1
  have X0 : Stand p l e room_1 s m #[(.int p1)] below meth c s₁ [] 0 0 := Stand.of_body Bd
  have e0 : s₁.heap = h0 := by rw [← hh, Bd.state]; rfl
  have N0 := Fr.nil n0
  have pre0 : ∀ t, Steps p.tables e below (s₁.setTop (mkF m 0 #[.val (.int p1), .unset, .unset, .unset] [])) t → Steps p.tables e below (s₁.setTop (entryFrame m #[(.int p1)] maxLocals)) t := fun t k => castTop (ef_0_I m p1) k
  obtain ⟨_, _, ⟨T1, L1, k1, n1⟩, -, X1, ⟨Lc1, hQ1, l1, y1, z1⟩, st1⟩ := Jvm.LawKit.callS X0 hx (y := (⟨"com/example/calm_current/calmcurrent/http/HttpStatus", "mayHaveContentLength", "(I)Z"⟩ : MethodName)) hown (mvT hZ (hw _ (List.mem_of_getElem? (i := 1) rfl))) (mvT hZ (hw _ (List.mem_of_getElem? (i := 2) rfl))) (mvT hZ (hw _ (List.mem_of_getElem? (i := 3) rfl))) (mvT hZ (hw _ (List.mem_of_getElem? (i := 4) rfl))) (by decide) (backOf (W := 0) (rm1_3 l Z a0 hw ((100 : Int32) + ((p1 &&& (2147483647 : Int32)) % (500 : Int32))) w_OK w_NO_CONTENT w_NOT_MODIFIED h0 n0 O0 P4 P5 P6 P7 P8 P9 P10 P2 P11 P12 P13 P3) hZ (hw _ (List.mem_of_getElem? (i := 4) rfl)) (hw _ (List.mem_of_getElem? (i := 3) rfl)) (by decide) (by decide)) (g := (mkF m 54 #[.val (.int p1), .val (.int ((100 : Int32) + ((p1 &&& (2147483647 : Int32)) % (500 : Int32)))), .val (.int (((100 : Int32) + ((p1 &&& (2147483647 : Int32)) % (500 : Int32))) / (100 : Int32))), .val (.int (1 : Int32))] [(.int ((100 : Int32) + ((p1 &&& (2147483647 : Int32)) % (500 : Int32))))])) rfl (by rw [hml]; rfl) (argsL := [(.int ((100 : Int32) + ((p1 &&& (2147483647 : Int32)) % (500 : Int32))))]) (rest := []) (lenOf pd_4 rfl) rfl (by show 2 * 0 + _ ≤ _; exact Nat.le_of_eq rfl) (hb hby at_54) (fun _ _ => ⟨rfl, e0, (by decide : 0 + 0 ≤ _), (by decide : 0 + 0 ≤ _)⟩)
  dsimp only [Pt.U, Pt.locs, Pt.cells, Pt.slots] at X1 l1 y1 z1 st1 hQ1
  subst l1 y1 z1
  obtain ⟨rfl, N1q, e1⟩ := hQ1
  have N1 := Fr.app N0 N1q
  obtain ⟨fs, hr, hrun, hended, hW, hsame⟩ := X1.leave (v := some (.int (1 : Int32))) (fun h => by rw [Bd.returns] at h; cases h)
  refine ⟨_, _, pre0 _ ?_, hrun, hended, _, _, rfl, ?_, ⟨_, rfl⟩, hW, hsame.mono (by decide) (by decide)⟩
  · show Steps p.tables e below (s₁.setTop (mkF m 0 #[.val (.int p1), .unset, .unset, .unset] [])) _
    refine XS.bipush X0.here hx rfl (hb hby at_0) ?_
    show Steps p.tables e below (s₁.setTop (mkF m 2 #[.val (.int p1), .unset, .unset, .unset] [(.int (100 : Int32))])) _
    refine XS.iloadN X0.here hx rfl (hb hby at_2) rfl ?_
    show Steps p.tables e below (s₁.setTop (mkF m 3 #[.val (.int p1), .unset, .unset, .unset] [(.int p1), (.int (100 : Int32))])) _
    refine X0.ldcInt hx hown (mvT hZ (hw _ (List.mem_of_getElem? (i := 0) rfl))) (g := (mkF m 3 #[.val (.int p1), .unset, .unset, .unset] [(.int p1), (.int (100 : Int32))])) rfl (hb hby at_3) _ ?_
    show Steps p.tables e below (s₁.setTop (mkF m 5 #[.val (.int p1), .unset, .unset, .unset] [(.int (2147483647 : Int32)), (.int p1), (.int (100 : Int32))])) _
    refine XS.iand X0.here hx rfl (hb hby at_5) rfl ?_
    show Steps p.tables e below (s₁.setTop (mkF m 6 #[.val (.int p1), .unset, .unset, .unset] [(.int (p1 &&& (2147483647 : Int32))), (.int (100 : Int32))])) _
    refine XS.sipush X0.here hx rfl (hb hby at_6) ?_
    show Steps p.tables e below (s₁.setTop (mkF m 9 #[.val (.int p1), .unset, .unset, .unset] [(.int (500 : Int32)), (.int (p1 &&& (2147483647 : Int32))), (.int (100 : Int32))])) _
    refine iremM (g := (mkF m 9 #[.val (.int p1), .unset, .unset, .unset] [(.int (500 : Int32)), (.int (p1 &&& (2147483647 : Int32))), (.int (100 : Int32))])) X0 hx rfl (hb hby at_9) rfl (by decide) ?_
    show Steps p.tables e below (s₁.setTop (mkF m 10 #[.val (.int p1), .unset, .unset, .unset] [(.int ((p1 &&& (2147483647 : Int32)) % (500 : Int32))), (.int (100 : Int32))])) _
    refine XS.iadd X0.here hx rfl (hb hby at_10) rfl ?_
    show Steps p.tables e below (s₁.setTop (mkF m 11 #[.val (.int p1), .unset, .unset, .unset] [(.int ((100 : Int32) + ((p1 &&& (2147483647 : Int32)) % (500 : Int32))))])) _
    refine XS.istoreN X0.here hx rfl (hb hby at_11) rfl (l' := #[.val (.int p1), .val (.int ((100 : Int32) + ((p1 &&& (2147483647 : Int32)) % (500 : Int32)))), .unset, .unset]) rfl ?_
    show Steps p.tables e below (s₁.setTop (mkF m 12 #[.val (.int p1), .val (.int ((100 : Int32) + ((p1 &&& (2147483647 : Int32)) % (500 : Int32)))), .unset, .unset] [])) _
    refine XS.iloadN X0.here hx rfl (hb hby at_12) rfl ?_
    show Steps p.tables e below (s₁.setTop (mkF m 13 #[.val (.int p1), .val (.int ((100 : Int32) + ((p1 &&& (2147483647 : Int32)) % (500 : Int32)))), .unset, .unset] [(.int ((100 : Int32) + ((p1 &&& (2147483647 : Int32)) % (500 : Int32))))])) _
    refine XS.bipush X0.here hx rfl (hb hby at_13) ?_
    show Steps p.tables e below (s₁.setTop (mkF m 15 #[.val (.int p1), .val (.int ((100 : Int32) + ((p1 &&& (2147483647 : Int32)) % (500 : Int32)))), .unset, .unset] [(.int (100 : Int32)), (.int ((100 : Int32) + ((p1 &&& (2147483647 : Int32)) % (500 : Int32))))])) _
    refine XS.idiv X0.here hx rfl (hb hby at_15) rfl (by decide) ?_
    show Steps p.tables e below (s₁.setTop (mkF m 16 #[.val (.int p1), .val (.int ((100 : Int32) + ((p1 &&& (2147483647 : Int32)) % (500 : Int32)))), .unset, .unset] [(.int (((100 : Int32) + ((p1 &&& (2147483647 : Int32)) % (500 : Int32))) / (100 : Int32)))])) _
    refine XS.istoreN X0.here hx rfl (hb hby at_16) rfl (l' := #[.val (.int p1), .val (.int ((100 : Int32) + ((p1 &&& (2147483647 : Int32)) % (500 : Int32)))), .val (.int (((100 : Int32) + ((p1 &&& (2147483647 : Int32)) % (500 : Int32))) / (100 : Int32))), .unset]) rfl ?_
    show Steps p.tables e below (s₁.setTop (mkF m 17 #[.val (.int p1), .val (.int ((100 : Int32) + ((p1 &&& (2147483647 : Int32)) % (500 : Int32)))), .val (.int (((100 : Int32) + ((p1 &&& (2147483647 : Int32)) % (500 : Int32))) / (100 : Int32))), .unset] [])) _
    refine XS.iloadN X0.here hx rfl (hb hby at_17) rfl ?_
    show Steps p.tables e below (s₁.setTop (mkF m 18 #[.val (.int p1), .val (.int ((100 : Int32) + ((p1 &&& (2147483647 : Int32)) % (500 : Int32)))), .val (.int (((100 : Int32) + ((p1 &&& (2147483647 : Int32)) % (500 : Int32))) / (100 : Int32))), .unset] [(.int (((100 : Int32) + ((p1 &&& (2147483647 : Int32)) % (500 : Int32))) / (100 : Int32)))])) _
    refine XS.iconst X0.here hx rfl (hb hby at_18) ?_
    show Steps p.tables e below (s₁.setTop (mkF m 19 #[.val (.int p1), .val (.int ((100 : Int32) + ((p1 &&& (2147483647 : Int32)) % (500 : Int32)))), .val (.int (((100 : Int32) + ((p1 &&& (2147483647 : Int32)) % (500 : Int32))) / (100 : Int32))), .unset] [(.int (1 : Int32)), (.int (((100 : Int32) + ((p1 &&& (2147483647 : Int32)) % (500 : Int32))) / (100 : Int32)))])) _
    refine XS.icmpYes X0.here hx rfl (pc0 := 19) (pc' := 27) rfl (hb hby at_19) rfl (feq P1).2 (by decide) (by decide) ?_
    show Steps p.tables e below (s₁.setTop (mkF m 27 #[.val (.int p1), .val (.int ((100 : Int32) + ((p1 &&& (2147483647 : Int32)) % (500 : Int32)))), .val (.int (((100 : Int32) + ((p1 &&& (2147483647 : Int32)) % (500 : Int32))) / (100 : Int32))), .unset] [])) _
    refine XS.iloadN X0.here hx rfl (hb hby at_27) rfl ?_
    show Steps p.tables e below (s₁.setTop (mkF m 28 #[.val (.int p1), .val (.int ((100 : Int32) + ((p1 &&& (2147483647 : Int32)) % (500 : Int32)))), .val (.int (((100 : Int32) + ((p1 &&& (2147483647 : Int32)) % (500 : Int32))) / (100 : Int32))), .unset] [(.int ((100 : Int32) + ((p1 &&& (2147483647 : Int32)) % (500 : Int32))))])) _
    refine XS.sipush X0.here hx rfl (hb hby at_28) ?_
    show Steps p.tables e below (s₁.setTop (mkF m 31 #[.val (.int p1), .val (.int ((100 : Int32) + ((p1 &&& (2147483647 : Int32)) % (500 : Int32)))), .val (.int (((100 : Int32) + ((p1 &&& (2147483647 : Int32)) % (500 : Int32))) / (100 : Int32))), .unset] [(.int (204 : Int32)), (.int ((100 : Int32) + ((p1 &&& (2147483647 : Int32)) % (500 : Int32))))])) _
    refine XS.icmpYes X0.here hx rfl (pc0 := 31) (pc' := 39) rfl (hb hby at_31) rfl (feq P2).2 (by decide) (by decide) ?_
    show Steps p.tables e below (s₁.setTop (mkF m 39 #[.val (.int p1), .val (.int ((100 : Int32) + ((p1 &&& (2147483647 : Int32)) % (500 : Int32)))), .val (.int (((100 : Int32) + ((p1 &&& (2147483647 : Int32)) % (500 : Int32))) / (100 : Int32))), .unset] [])) _
    refine XS.iloadN X0.here hx rfl (hb hby at_39) rfl ?_
    show Steps p.tables e below (s₁.setTop (mkF m 40 #[.val (.int p1), .val (.int ((100 : Int32) + ((p1 &&& (2147483647 : Int32)) % (500 : Int32)))), .val (.int (((100 : Int32) + ((p1 &&& (2147483647 : Int32)) % (500 : Int32))) / (100 : Int32))), .unset] [(.int ((100 : Int32) + ((p1 &&& (2147483647 : Int32)) % (500 : Int32))))])) _
    refine XS.sipush X0.here hx rfl (hb hby at_40) ?_
    show Steps p.tables e below (s₁.setTop (mkF m 43 #[.val (.int p1), .val (.int ((100 : Int32) + ((p1 &&& (2147483647 : Int32)) % (500 : Int32)))), .val (.int (((100 : Int32) + ((p1 &&& (2147483647 : Int32)) % (500 : Int32))) / (100 : Int32))), .unset] [(.int (304 : Int32)), (.int ((100 : Int32) + ((p1 &&& (2147483647 : Int32)) % (500 : Int32))))])) _
    refine XS.icmpYes X0.here hx rfl (pc0 := 43) (pc' := 51) rfl (hb hby at_43) rfl (feq P3).2 (by decide) (by decide) ?_
    show Steps p.tables e below (s₁.setTop (mkF m 51 #[.val (.int p1), .val (.int ((100 : Int32) + ((p1 &&& (2147483647 : Int32)) % (500 : Int32)))), .val (.int (((100 : Int32) + ((p1 &&& (2147483647 : Int32)) % (500 : Int32))) / (100 : Int32))), .unset] [])) _
    refine XS.iconst X0.here hx rfl (hb hby at_51) ?_
    show Steps p.tables e below (s₁.setTop (mkF m 52 #[.val (.int p1), .val (.int ((100 : Int32) + ((p1 &&& (2147483647 : Int32)) % (500 : Int32)))), .val (.int (((100 : Int32) + ((p1 &&& (2147483647 : Int32)) % (500 : Int32))) / (100 : Int32))), .unset] [(.int (1 : Int32))])) _
    refine XS.istoreN X0.here hx rfl (hb hby at_52) rfl (l' := #[.val (.int p1), .val (.int ((100 : Int32) + ((p1 &&& (2147483647 : Int32)) % (500 : Int32)))), .val (.int (((100 : Int32) + ((p1 &&& (2147483647 : Int32)) % (500 : Int32))) / (100 : Int32))), .val (.int (1 : Int32))]) rfl ?_
    show Steps p.tables e below (s₁.setTop (mkF m 53 #[.val (.int p1), .val (.int ((100 : Int32) + ((p1 &&& (2147483647 : Int32)) % (500 : Int32)))), .val (.int (((100 : Int32) + ((p1 &&& (2147483647 : Int32)) % (500 : Int32))) / (100 : Int32))), .val (.int (1 : Int32))] [])) _
    refine XS.iloadN X0.here hx rfl (hb hby at_53) rfl ?_
    show Steps p.tables e below (s₁.setTop (mkF m 54 #[.val (.int p1), .val (.int ((100 : Int32) + ((p1 &&& (2147483647 : Int32)) % (500 : Int32)))), .val (.int (((100 : Int32) + ((p1 &&& (2147483647 : Int32)) % (500 : Int32))) / (100 : Int32))), .val (.int (1 : Int32))] [(.int ((100 : Int32) + ((p1 &&& (2147483647 : Int32)) % (500 : Int32))))])) _
    refine st1 _ ?_
    show Steps p.tables e below (T1.setTop (mkF m 57 #[.val (.int p1), .val (.int ((100 : Int32) + ((p1 &&& (2147483647 : Int32)) % (500 : Int32)))), .val (.int (((100 : Int32) + ((p1 &&& (2147483647 : Int32)) % (500 : Int32))) / (100 : Int32))), .val (.int (1 : Int32))] [(.int (1 : Int32))])) _
    refine XS.iloadN X1.here hx rfl (hb hby at_57) rfl ?_
    show Steps p.tables e below (T1.setTop (mkF m 58 #[.val (.int p1), .val (.int ((100 : Int32) + ((p1 &&& (2147483647 : Int32)) % (500 : Int32)))), .val (.int (((100 : Int32) + ((p1 &&& (2147483647 : Int32)) % (500 : Int32))) / (100 : Int32))), .val (.int (1 : Int32))] [(.int (1 : Int32)), (.int (1 : Int32))])) _
    refine XS.icmpNo X1.here hx rfl (hb hby at_58) rfl (by decide) ?_
    show Steps p.tables e below (T1.setTop (mkF m 61 #[.val (.int p1), .val (.int ((100 : Int32) + ((p1 &&& (2147483647 : Int32)) % (500 : Int32)))), .val (.int (((100 : Int32) + ((p1 &&& (2147483647 : Int32)) % (500 : Int32))) / (100 : Int32))), .val (.int (1 : Int32))] [])) _
    refine XS.iconst X1.here hx rfl (hb hby at_61) ?_
    show Steps p.tables e below (T1.setTop (mkF m 62 #[.val (.int p1), .val (.int ((100 : Int32) + ((p1 &&& (2147483647 : Int32)) % (500 : Int32)))), .val (.int (((100 : Int32) + ((p1 &&& (2147483647 : Int32)) % (500 : Int32))) / (100 : Int32))), .val (.int (1 : Int32))] [(.int (1 : Int32))])) _
    refine XS.goto X1.here hx rfl (pc0 := 62) (pc' := 66) rfl (hb hby at_62) (by decide) (by decide) ?_
    show Steps p.tables e below (T1.setTop (mkF m 66 #[.val (.int p1), .val (.int ((100 : Int32) + ((p1 &&& (2147483647 : Int32)) % (500 : Int32)))), .val (.int (((100 : Int32) + ((p1 &&& (2147483647 : Int32)) % (500 : Int32))) / (100 : Int32))), .val (.int (1 : Int32))] [(.int (1 : Int32))])) _
    exact retN X1 hx (t := .boolean) Bd.returns (by simp) (hb hby at_66) hr
  · show own_Q1 n0 _ T1.heap _
    rw [e1]
    exact ⟨rfl, N1⟩
set_option maxRecDepth 65536 in
set_option maxHeartbeats 40000000 in
theorem comes_1 {Post : Tables → Env → Array Value → State → Outcome → State → Prop} (hpost : ∀ tb e args s v u, (limb_1_1.after args s (.returned v) u = true ∧ limb_1_2.after args s (.returned v) u = true ∧ True) → FrameEnd s (.returned v) u (Jvm.fieldLocs frame_1_writes args s ++ Jvm.arrayLocs frame_1_arrays args s ++ Jvm.staticLocs frame_1_statics s) 0 0 → Post tb e args s (.returned v) u) :
    ArmFor flags0 classFile x code maxLocals ret World_1 tables_1 room_1 Calls_1 rest_1 Pre_1 Post := by
  intro l hfl _ _ p e ha hc hk s m args below hf hA hF happ hP
  obtain ⟨hcalls, hrest, hpre⟩ := hP
  obtain ⟨-, -, -, hnamed, -, -, -, hat⟩ := (Spec.applies_iff hf).mp happ
  obtain ⟨hg, hn⟩ := and_e (Cond.before_iff.mp (show (Jvm.Cond.and given_1 narrow_1).before args s = true from hpre))
  obtain ⟨g1, g2⟩ := and_e hg
  obtain ⟨v0, rfl⟩ : ∃ v0 : Value, args = #[v0] := by
    have hs : args.size = 1 := by simpa [Cond.value, given_1] using g1
    obtain ⟨L⟩ := args
    match L, hs with
    | [v0], _ => exact ⟨v0, rfl⟩
  have hw := fun d (hd : d ∈ tables_1) => atoms_spec (ws := Jvm.Cond.code x code maxLocals ret :: tables_1) hat d (List.mem_cons_of_mem _ hd)
  have hfit : Fit s := fun {y c} hc i hi => by
    obtain ⟨ha, rfl⟩ := Array.getElem?_eq_some_iff.mp hc
    have q := List.all_eq_true.mp ((Array.all_eq_true_iff_forall_mem.mp hF) _ (Array.getElem_mem ha)) i (List.mem_range.mpr hi)
    simpa [Array.getElem?_eq_getElem hi] using q
  obtain ⟨p1, ei0⟩ := is_v g2
  obtain rfl : v0 = (.int p1) := Option.some.inj ei0
  obtain ⟨c1, c2⟩ := and_e hn
  obtain ⟨c3, c4⟩ := and_e c2
  obtain ⟨c5, c6⟩ := and_e c4
  obtain ⟨c7, c8⟩ := and_e c6
  obtain ⟨c9, c10⟩ := and_e c8
  obtain ⟨w_OK, ev_w_OK⟩ := exa_v c1
  have E_w_OK := Exa.start ev_w_OK c1
  have S_w_OK := Sta.start ev_w_OK (Or.inr ⟨(hw _ (List.mem_of_getElem? (i := 3) rfl)), (hw _ (List.mem_of_getElem? (i := 6) rfl))⟩)
  obtain ⟨w_NO_CONTENT, ev_w_NO_CONTENT⟩ := exa_v c5
  have E_w_NO_CONTENT := Exa.start ev_w_NO_CONTENT c5
  have S_w_NO_CONTENT := Sta.start ev_w_NO_CONTENT (Or.inr ⟨(hw _ (List.mem_of_getElem? (i := 3) rfl)), (hw _ (List.mem_of_getElem? (i := 15) rfl))⟩)
  obtain ⟨w_NOT_MODIFIED, ev_w_NOT_MODIFIED⟩ := exa_v c9
  have E_w_NOT_MODIFIED := Exa.start ev_w_NOT_MODIFIED c9
  have S_w_NOT_MODIFIED := Sta.start ev_w_NOT_MODIFIED (Or.inr ⟨(hw _ (List.mem_of_getElem? (i := 3) rfl)), (hw _ (List.mem_of_getElem? (i := 17) rfl))⟩)
  have F__value_w_OK := own_fld c3 ev_w_OK
  have F__value_w_NO_CONTENT := own_fld c7 ev_w_NO_CONTENT
  have F__value_w_NOT_MODIFIED := own_fld c10 ev_w_NOT_MODIFIED
  have key : MetFree l x (head1 (Jvm.Cond.code x code maxLocals ret :: tables_1) room_1) (fun a U => a = #[(.int p1)] ∧ s.Warmed39 U.vm ∧ U.heap = s.heap) (fun _ _ _ _ _ => True) (fun _ U o U' => ∃ v L, o = .returned v ∧ own_Q1 s.heap.size v U'.heap L ∧ FrameEnd U o U' L room_1.cells room_1.slots) := by
    have hm : (p1 &&& (2147483647 : Int32)).toInt = p1.toInt % 2147483648 := c_mask p1 2147483647 31 (by decide) (by decide)
    have hr : ((p1 &&& (2147483647 : Int32)) % (500 : Int32)).toInt = (p1 &&& (2147483647 : Int32)).toInt % 500 := (c_irem (p1 &&& (2147483647 : Int32)) (500 : Int32) 500 rfl).1 (by omega)
    have hs := c_iadd (100 : Int32) ((p1 &&& (2147483647 : Int32)) % (500 : Int32))
    have z100 : (100 : Int32).toInt = 100 := rfl
    have hcr := rng32 ((100 : Int32) + ((p1 &&& (2147483647 : Int32)) % (500 : Int32)))
    have hd : (((100 : Int32) + ((p1 &&& (2147483647 : Int32)) % (500 : Int32))) / (100 : Int32)).toInt = ((100 : Int32) + ((p1 &&& (2147483647 : Int32)) % (500 : Int32))).toInt / 100 := (c_idiv ((100 : Int32) + ((p1 &&& (2147483647 : Int32)) % (500 : Int32))) (100 : Int32) 100 rfl (by decide)).1 (by omega)
    by_cases h1 : (((100 : Int32) + ((p1 &&& (2147483647 : Int32)) % (500 : Int32))) / (100 : Int32)) = (1 : Int32)
    · have hk : (((100 : Int32) + ((p1 &&& (2147483647 : Int32)) % (500 : Int32))) / (100 : Int32)).toInt = 1 := by rw [h1]; rfl
      exact law_0 l s _ hw tables_1 p1 w_OK s.heap s.heap.size (Old.start s) h1 S_w_OK E_w_OK F__value_w_OK (by rw [Int32.lt_iff_toInt_lt, show (200 : Int32).toInt = 200 from rfl]; omega)
    have hk : ¬ ((((100 : Int32) + ((p1 &&& (2147483647 : Int32)) % (500 : Int32))) / (100 : Int32)).toInt = 1) := fun q => h1 (by rw [← Int32.toInt_inj, q]; rfl)
    have hge : ¬ (((100 : Int32) + ((p1 &&& (2147483647 : Int32)) % (500 : Int32))) < (200 : Int32)) := by rw [Int32.lt_iff_toInt_lt, show (200 : Int32).toInt = 200 from rfl]; omega
    by_cases h2 : ((100 : Int32) + ((p1 &&& (2147483647 : Int32)) % (500 : Int32))) = (204 : Int32)
    · exact law_1 l s _ hw tables_1 p1 w_OK w_NO_CONTENT s.heap s.heap.size (Old.start s) h1 h2 S_w_OK E_w_OK F__value_w_OK hge S_w_NO_CONTENT E_w_NO_CONTENT F__value_w_NO_CONTENT
    by_cases h3 : ((100 : Int32) + ((p1 &&& (2147483647 : Int32)) % (500 : Int32))) = (304 : Int32)
    · exact law_2 l s _ hw tables_1 p1 w_OK w_NO_CONTENT w_NOT_MODIFIED s.heap s.heap.size (Old.start s) h1 h2 h3 S_w_OK E_w_OK F__value_w_OK hge S_w_NO_CONTENT E_w_NO_CONTENT F__value_w_NO_CONTENT S_w_NOT_MODIFIED E_w_NOT_MODIFIED F__value_w_NOT_MODIFIED
    exact law_3 l s _ hw tables_1 p1 w_OK w_NO_CONTENT w_NOT_MODIFIED s.heap s.heap.size (Old.start s) h1 h2 h3 S_w_OK E_w_OK F__value_w_OK hge S_w_NO_CONTENT E_w_NO_CONTENT F__value_w_NO_CONTENT S_w_NOT_MODIFIED E_w_NOT_MODIFIED F__value_w_NOT_MODIFIED
  obtain ⟨n, o, h1, h2, h3, _, L, rfl, ⟨rfl, N⟩, hq⟩ := key p e ha hc hk s m _ below hf ((Spec.applies_iff_loose hf).mp happ).1 ⟨rfl, State.Warmed39.refl s, rfl⟩ trivial
  refine ⟨n, _, h1, h2, h3, hpost _ _ _ _ _ _ ⟨Cond.after_iff.mpr rfl, Cond.after_iff.mpr (eq_i res_at (Term.int_eval (1)) rfl), trivial⟩ ⟨hq.1, hq.2.1, (hq.2.2.sift fun y hy => Or.inr (N y hy)).mono (by decide) (by decide)⟩⟩
theorem main_1_1 : Claimed_1_1 := comes_1 fun _ _ _ _ _ _ h hF => ⟨h.1, hF⟩
theorem main_1_2 : Claimed_1_2 := comes_1 fun _ _ _ _ _ _ h hF => ⟨h.2.1, hF⟩
end Jvm.Pilot.@@N@@
namespace Jvm.Pilot.@@N@@
open Jvm Jvm.ClassFile Sem Op Lib Jvm.Free Jvm.Stand Jvm.Pilot.@@N@@.Jvm.D
/-! MADE BY PROGRAM (witnessworld.py) out of the Statement's table words and the real class files: 10 classes; the members and pool entries that the words name. The judged class is class 1, her method 1. -/
namespace start1
open Jvm.ClassFile
def u (s : String) : CpInfo := .utf8 (stringToUtf16 s)
/-- a pool by its gaps: so many unusable entries, then the entry; so many at the end -/
def gap : Nat → List CpInfo → List CpInfo
  | 0, r => r
  | n + 1, r => .unusable :: gap n r
def poolList (es : List (Nat × CpInfo)) (last : Nat) : List CpInfo := es.foldr (fun e r => gap e.1 (e.2 :: r)) (gap last [])
def pool (es : List (Nat × CpInfo)) (last : Nat) : Array CpInfo := ⟨poolList es last⟩
def fileOf (pool : Array CpInfo) (this : Nat) (attrs : Array Attribute := #[]) (ms : Array MethodInfo := #[]) (fl : Nat := 33) (sup : Nat := 0) (ifs : Array Nat := #[]) (fds : Array FieldInfo := #[]) : ClassFile where
  minorVersion := 0
  majorVersion := 65
  constantPool := pool
  accessFlags := fl
  thisClass := this
  superClass := sup
  interfaces := ifs
  fields := fds
  methods := ms
  attributes := attrs
def plain (name : String) (sup : Option ClassId) : Class where
  name := name
  kind := .ordinary
  loader := none
  accessFlags := 33
  super := sup
  interfaces := #[]
  cf := none
  fields := #[]
  methods := #[]
  instanceTypes := #[]
  staticTypes := #[]
  resolved := #[]
  callSites := []
  init := .initialized
  statics := none
  mirror := none

def pool0 : Array CpInfo := pool [(5, u "<init>"), (0, u "()V"), (1, .class_ 10), (1, u "java/lang/Object")] 113

def k0m0 : Method := { name := "<init>", desc := "()V", sig := { parameters := [], returnType := none }, accessFlags := 1, code := none }
/-- java/lang/Object -/
def k0 : Class := { plain "java/lang/Object" none with
  accessFlags := 33
  interfaces := #[]
  cf := some (fileOf pool0 8 #[] #[{ accessFlags := 1, nameIndex := 5, descriptorIndex := 6, attributes := #[] }] 33 0 #[] #[])
  fields := #[]
  methods := #[k0m0]
  instanceTypes := #[]
  staticTypes := #[]
  resolved := Array.replicate 124 none
  statics := none }

def pool1 : Array CpInfo := pool [(2, .class_ 4), (1, u "java/lang/Object"), (0, u "<init>"), (0, u "()V"), (0, .integer 2147483647), (0, .methodref 9 10), (0, .class_ 11), (0, .nameAndType 12 13), (0, u "com/example/calm_current/calmcurrent/http/HttpStatus"), (0, u "mayHaveContentLength"), (0, u "(I)Z"), (0, .class_ 15), (0, u "com/example/calm_current/calmcurrent/http/HttpStatusMayHaveContentLengthPinLaw"), (2, u "law")] 3

def k1m0 : Method := { name := "<init>", desc := "()V", sig := { parameters := [], returnType := none }, accessFlags := 1, code := none }
def k1c1 : Code := { maxStack := 3, maxLocals := 4, code := code, exceptionTable := #[], attributes := #[] }
def k1m1 : Method := { name := "law", desc := "(I)Z", sig := { parameters := [.int], returnType := some .boolean }, accessFlags := 9, code := some k1c1 }
/-- com/example/calm_current/calmcurrent/http/HttpStatusMayHaveContentLengthPinLaw -/
def k1 : Class := { plain "com/example/calm_current/calmcurrent/http/HttpStatusMayHaveContentLengthPinLaw" (some 0) with
  accessFlags := 49
  interfaces := #[]
  cf := some (fileOf pool1 14 #[] #[{ accessFlags := 1, nameIndex := 5, descriptorIndex := 6, attributes := #[] }, { accessFlags := 9, nameIndex := 18, descriptorIndex := 13, attributes := #[] }] 49 2 #[] #[])
  fields := #[]
  methods := #[k1m0, k1m1]
  instanceTypes := #[]
  staticTypes := #[]
  resolved := Array.replicate 22 none
  statics := none }

def pool2 : Array CpInfo := pool [(1, .class_ 2), (0, u "java/lang/constant/Constable"), (0, .class_ 4), (0, u "java/lang/Object")] 6

/-- java/lang/constant/Constable -/
def k2 : Class := { plain "java/lang/constant/Constable" (some 0) with
  accessFlags := 1537
  interfaces := #[]
  cf := some (fileOf pool2 1 #[] #[] 1537 3 #[] #[])
  fields := #[]
  methods := #[]
  instanceTypes := #[]
  staticTypes := #[]
  resolved := Array.replicate 11 none
  statics := none }

def pool3 : Array CpInfo := pool [(1, .class_ 2), (0, u "java/lang/Comparable"), (0, .class_ 4), (0, u "java/lang/Object")] 7

/-- java/lang/Comparable -/
def k3 : Class := { plain "java/lang/Comparable" (some 0) with
  accessFlags := 1537
  interfaces := #[]
  cf := some (fileOf pool3 1 #[] #[] 1537 3 #[] #[])
  fields := #[]
  methods := #[]
  instanceTypes := #[]
  staticTypes := #[]
  resolved := Array.replicate 12 none
  statics := none }

def pool4 : Array CpInfo := pool [(1, .class_ 2), (0, u "java/io/Serializable"), (0, .class_ 4), (0, u "java/lang/Object")] 2

/-- java/io/Serializable -/
def k4 : Class := { plain "java/io/Serializable" (some 0) with
  accessFlags := 1537
  interfaces := #[]
  cf := some (fileOf pool4 1 #[] #[] 1537 3 #[] #[])
  fields := #[]
  methods := #[]
  instanceTypes := #[]
  staticTypes := #[]
  resolved := Array.replicate 7 none
  statics := none }

def pool5 : Array CpInfo := pool [(2, .class_ 4), (1, u "java/lang/Enum"), (0, u "name"), (0, u "Ljava/lang/String;"), (2, u "ordinal"), (0, u "I"), (1, .class_ 14), (1, u "java/lang/Object"), (4, u "hash"), (86, .class_ 108), (1, u "java/lang/Enum$EnumDesc"), (2, .class_ 112), (0, u "java/lang/constant/Constable"), (0, .class_ 114), (0, u "java/lang/Comparable"), (0, .class_ 116), (0, u "java/io/Serializable")] 87

/-- java/lang/Enum -/
def k5 : Class := { plain "java/lang/Enum" (some 0) with
  accessFlags := 1057
  interfaces := #[2, 3, 4]
  cf := some (fileOf pool5 2 #[.nestMembers #[106]] #[] 1057 12 #[111, 113, 115] #[{ accessFlags := 18, nameIndex := 5, descriptorIndex := 6, attributes := #[] }, { accessFlags := 18, nameIndex := 9, descriptorIndex := 10, attributes := #[] }, { accessFlags := 2, nameIndex := 19, descriptorIndex := 10, attributes := #[] }])
  fields := #[{ name := "name", type := (.object "java/lang/String"), accessFlags := 18, slot := 0, constantValue := 0 }, { name := "ordinal", type := .int, accessFlags := 18, slot := 1, constantValue := 0 }, { name := "hash", type := .int, accessFlags := 2, slot := 2, constantValue := 0 }]
  methods := #[]
  instanceTypes := #[(.object "java/lang/String"), .int, .int]
  staticTypes := #[]
  resolved := Array.replicate 204 none
  statics := none }

def pool6 : Array CpInfo := pool [(1, .class_ 2), (0, u "com/example/calm_current/calmcurrent/http/HttpStatus"), (2, u "CONTINUE"), (0, u "Lcom/example/calm_current/calmcurrent/http/HttpStatus;"), (2, u "SWITCHING_PROTOCOLS"), (2, u "PROCESSING"), (2, u "EARLY_HINTS"), (0, .fieldref 1 17), (0, .nameAndType 18 6), (0, u "OK"), (2, u "CREATED"), (2, u "ACCEPTED"), (2, u "NON_AUTHORITATIVE_INFORMATION"), (0, .fieldref 1 29), (0, .nameAndType 30 6), (0, u "NO_CONTENT"), (2, u "RESET_CONTENT"), (2, u "PARTIAL_CONTENT"), (2, u "MULTI_STATUS"), (2, u "ALREADY_REPORTED"), (2, u "IM_USED"), (2, u "MULTIPLE_CHOICES"), (2, u "MOVED_PERMANENTLY"), (2, u "FOUND"), (2, u "SEE_OTHER"), (0, .fieldref 1 59), (0, .nameAndType 60 6), (0, u "NOT_MODIFIED"), (2, u "TEMPORARY_REDIRECT"), (2, u "PERMANENT_REDIRECT"), (2, u "BAD_REQUEST"), (2, u "UNAUTHORIZED"), (2, u "PAYMENT_REQUIRED"), (2, u "FORBIDDEN"), (2, u "NOT_FOUND"), (2, u "METHOD_NOT_ALLOWED"), (2, u "NOT_ACCEPTABLE"), (2, u "PROXY_AUTHENTICATION_REQUIRED"), (2, u "REQUEST_TIMEOUT"), (2, u "CONFLICT"), (2, u "GONE"), (2, u "LENGTH_REQUIRED"), (2, u "PRECONDITION_FAILED"), (2, u "CONTENT_TOO_LARGE"), (2, u "URI_TOO_LONG"), (2, u "UNSUPPORTED_MEDIA_TYPE"), (2, u "RANGE_NOT_SATISFIABLE"), (2, u "EXPECTATION_FAILED"), (2, u "MISDIRECTED_REQUEST"), (2, u "UNPROCESSABLE_CONTENT"), (2, u "LOCKED"), (2, u "FAILED_DEPENDENCY"), (2, u "TOO_EARLY"), (2, u "UPGRADE_REQUIRED"), (2, u "PRECONDITION_REQUIRED"), (2, u "TOO_MANY_REQUESTS"), (2, u "REQUEST_HEADER_FIELDS_TOO_LARGE"), (2, u "UNAVAILABLE_FOR_LEGAL_REASONS"), (2, u "INTERNAL_SERVER_ERROR"), (2, u "NOT_IMPLEMENTED"), (2, u "BAD_GATEWAY"), (2, u "SERVICE_UNAVAILABLE"), (2, u "GATEWAY_TIMEOUT"), (2, u "HTTP_VERSION_NOT_SUPPORTED"), (2, u "VARIANT_ALSO_NEGOTIATES"), (2, u "INSUFFICIENT_STORAGE"), (2, u "LOOP_DETECTED"), (2, u "NETWORK_AUTHENTICATION_REQUIRED"), (2, u "$VALUES"), (0, u "[Lcom/example/calm_current/calmcurrent/http/HttpStatus;"), (6, .class_ 193), (1, u "java/lang/Enum"), (6, .fieldref 1 201), (0, .nameAndType 202 203), (0, u "_value"), (0, u "I"), (2, u "_reasonPhrase"), (0, u "Ljava/lang/String;"), (2, u "BY_CODE"), (0, u "Ljava/util/Map;"), (17, .methodref 1 230), (0, .nameAndType 231 232), (0, u "value"), (0, u "()I"), (1, .class_ 236), (1, u "com/example/calm_current/calmcurrent/http/HttpStatus$Series"), (221, u "mayHaveContentLength"), (0, u "(I)Z")] 30

def k6c0 : Code := { maxStack := 2, maxLocals := 1, code := prog_14_method_5_code, exceptionTable := #[], attributes := #[] }
def k6m0 : Method := { name := "mayHaveContentLength", desc := "(I)Z", sig := { parameters := [.int], returnType := some .boolean }, accessFlags := 9, code := some k6c0 }
def k6c1 : Code := { maxStack := 1, maxLocals := 1, code := prog_14_method_6_code, exceptionTable := #[], attributes := #[] }
def k6m1 : Method := { name := "value", desc := "()I", sig := { parameters := [], returnType := some .int }, accessFlags := 1, code := some k6c1 }
/-- com/example/calm_current/calmcurrent/http/HttpStatus -/
def k6 : Class := { plain "com/example/calm_current/calmcurrent/http/HttpStatus" (some 5) with
  accessFlags := 16433
  interfaces := #[]
  cf := some (fileOf pool6 1 #[.nestMembers #[234]] #[{ accessFlags := 9, nameIndex := 458, descriptorIndex := 459, attributes := #[] }, { accessFlags := 1, nameIndex := 231, descriptorIndex := 232, attributes := #[] }] 16433 191 #[] #[{ accessFlags := 16409, nameIndex := 5, descriptorIndex := 6, attributes := #[] }, { accessFlags := 16409, nameIndex := 9, descriptorIndex := 6, attributes := #[] }, { accessFlags := 16409, nameIndex := 12, descriptorIndex := 6, attributes := #[] }, { accessFlags := 16409, nameIndex := 15, descriptorIndex := 6, attributes := #[] }, { accessFlags := 16409, nameIndex := 18, descriptorIndex := 6, attributes := #[] }, { accessFlags := 16409, nameIndex := 21, descriptorIndex := 6, attributes := #[] }, { accessFlags := 16409, nameIndex := 24, descriptorIndex := 6, attributes := #[] }, { accessFlags := 16409, nameIndex := 27, descriptorIndex := 6, attributes := #[] }, { accessFlags := 16409, nameIndex := 30, descriptorIndex := 6, attributes := #[] }, { accessFlags := 16409, nameIndex := 33, descriptorIndex := 6, attributes := #[] }, { accessFlags := 16409, nameIndex := 36, descriptorIndex := 6, attributes := #[] }, { accessFlags := 16409, nameIndex := 39, descriptorIndex := 6, attributes := #[] }, { accessFlags := 16409, nameIndex := 42, descriptorIndex := 6, attributes := #[] }, { accessFlags := 16409, nameIndex := 45, descriptorIndex := 6, attributes := #[] }, { accessFlags := 16409, nameIndex := 48, descriptorIndex := 6, attributes := #[] }, { accessFlags := 16409, nameIndex := 51, descriptorIndex := 6, attributes := #[] }, { accessFlags := 16409, nameIndex := 54, descriptorIndex := 6, attributes := #[] }, { accessFlags := 16409, nameIndex := 57, descriptorIndex := 6, attributes := #[] }, { accessFlags := 16409, nameIndex := 60, descriptorIndex := 6, attributes := #[] }, { accessFlags := 16409, nameIndex := 63, descriptorIndex := 6, attributes := #[] }, { accessFlags := 16409, nameIndex := 66, descriptorIndex := 6, attributes := #[] }, { accessFlags := 16409, nameIndex := 69, descriptorIndex := 6, attributes := #[] }, { accessFlags := 16409, nameIndex := 72, descriptorIndex := 6, attributes := #[] }, { accessFlags := 16409, nameIndex := 75, descriptorIndex := 6, attributes := #[] }, { accessFlags := 16409, nameIndex := 78, descriptorIndex := 6, attributes := #[] }, { accessFlags := 16409, nameIndex := 81, descriptorIndex := 6, attributes := #[] }, { accessFlags := 16409, nameIndex := 84, descriptorIndex := 6, attributes := #[] }, { accessFlags := 16409, nameIndex := 87, descriptorIndex := 6, attributes := #[] }, { accessFlags := 16409, nameIndex := 90, descriptorIndex := 6, attributes := #[] }, { accessFlags := 16409, nameIndex := 93, descriptorIndex := 6, attributes := #[] }, { accessFlags := 16409, nameIndex := 96, descriptorIndex := 6, attributes := #[] }, { accessFlags := 16409, nameIndex := 99, descriptorIndex := 6, attributes := #[] }, { accessFlags := 16409, nameIndex := 102, descriptorIndex := 6, attributes := #[] }, { accessFlags := 16409, nameIndex := 105, descriptorIndex := 6, attributes := #[] }, { accessFlags := 16409, nameIndex := 108, descriptorIndex := 6, attributes := #[] }, { accessFlags := 16409, nameIndex := 111, descriptorIndex := 6, attributes := #[] }, { accessFlags := 16409, nameIndex := 114, descriptorIndex := 6, attributes := #[] }, { accessFlags := 16409, nameIndex := 117, descriptorIndex := 6, attributes := #[] }, { accessFlags := 16409, nameIndex := 120, descriptorIndex := 6, attributes := #[] }, { accessFlags := 16409, nameIndex := 123, descriptorIndex := 6, attributes := #[] }, { accessFlags := 16409, nameIndex := 126, descriptorIndex := 6, attributes := #[] }, { accessFlags := 16409, nameIndex := 129, descriptorIndex := 6, attributes := #[] }, { accessFlags := 16409, nameIndex := 132, descriptorIndex := 6, attributes := #[] }, { accessFlags := 16409, nameIndex := 135, descriptorIndex := 6, attributes := #[] }, { accessFlags := 16409, nameIndex := 138, descriptorIndex := 6, attributes := #[] }, { accessFlags := 16409, nameIndex := 141, descriptorIndex := 6, attributes := #[] }, { accessFlags := 16409, nameIndex := 144, descriptorIndex := 6, attributes := #[] }, { accessFlags := 16409, nameIndex := 147, descriptorIndex := 6, attributes := #[] }, { accessFlags := 16409, nameIndex := 150, descriptorIndex := 6, attributes := #[] }, { accessFlags := 16409, nameIndex := 153, descriptorIndex := 6, attributes := #[] }, { accessFlags := 16409, nameIndex := 156, descriptorIndex := 6, attributes := #[] }, { accessFlags := 16409, nameIndex := 159, descriptorIndex := 6, attributes := #[] }, { accessFlags := 16409, nameIndex := 162, descriptorIndex := 6, attributes := #[] }, { accessFlags := 16409, nameIndex := 165, descriptorIndex := 6, attributes := #[] }, { accessFlags := 16409, nameIndex := 168, descriptorIndex := 6, attributes := #[] }, { accessFlags := 16409, nameIndex := 171, descriptorIndex := 6, attributes := #[] }, { accessFlags := 16409, nameIndex := 174, descriptorIndex := 6, attributes := #[] }, { accessFlags := 16409, nameIndex := 177, descriptorIndex := 6, attributes := #[] }, { accessFlags := 16409, nameIndex := 180, descriptorIndex := 6, attributes := #[] }, { accessFlags := 18, nameIndex := 202, descriptorIndex := 203, attributes := #[] }, { accessFlags := 18, nameIndex := 206, descriptorIndex := 207, attributes := #[] }, { accessFlags := 26, nameIndex := 210, descriptorIndex := 211, attributes := #[] }, { accessFlags := 4122, nameIndex := 183, descriptorIndex := 184, attributes := #[] }])
  fields := #[{ name := "CONTINUE", type := (.object "com/example/calm_current/calmcurrent/http/HttpStatus"), accessFlags := 16409, slot := 0, constantValue := 0 }, { name := "SWITCHING_PROTOCOLS", type := (.object "com/example/calm_current/calmcurrent/http/HttpStatus"), accessFlags := 16409, slot := 1, constantValue := 0 }, { name := "PROCESSING", type := (.object "com/example/calm_current/calmcurrent/http/HttpStatus"), accessFlags := 16409, slot := 2, constantValue := 0 }, { name := "EARLY_HINTS", type := (.object "com/example/calm_current/calmcurrent/http/HttpStatus"), accessFlags := 16409, slot := 3, constantValue := 0 }, { name := "OK", type := (.object "com/example/calm_current/calmcurrent/http/HttpStatus"), accessFlags := 16409, slot := 4, constantValue := 0 }, { name := "CREATED", type := (.object "com/example/calm_current/calmcurrent/http/HttpStatus"), accessFlags := 16409, slot := 5, constantValue := 0 }, { name := "ACCEPTED", type := (.object "com/example/calm_current/calmcurrent/http/HttpStatus"), accessFlags := 16409, slot := 6, constantValue := 0 }, { name := "NON_AUTHORITATIVE_INFORMATION", type := (.object "com/example/calm_current/calmcurrent/http/HttpStatus"), accessFlags := 16409, slot := 7, constantValue := 0 }, { name := "NO_CONTENT", type := (.object "com/example/calm_current/calmcurrent/http/HttpStatus"), accessFlags := 16409, slot := 8, constantValue := 0 }, { name := "RESET_CONTENT", type := (.object "com/example/calm_current/calmcurrent/http/HttpStatus"), accessFlags := 16409, slot := 9, constantValue := 0 }, { name := "PARTIAL_CONTENT", type := (.object "com/example/calm_current/calmcurrent/http/HttpStatus"), accessFlags := 16409, slot := 10, constantValue := 0 }, { name := "MULTI_STATUS", type := (.object "com/example/calm_current/calmcurrent/http/HttpStatus"), accessFlags := 16409, slot := 11, constantValue := 0 }, { name := "ALREADY_REPORTED", type := (.object "com/example/calm_current/calmcurrent/http/HttpStatus"), accessFlags := 16409, slot := 12, constantValue := 0 }, { name := "IM_USED", type := (.object "com/example/calm_current/calmcurrent/http/HttpStatus"), accessFlags := 16409, slot := 13, constantValue := 0 }, { name := "MULTIPLE_CHOICES", type := (.object "com/example/calm_current/calmcurrent/http/HttpStatus"), accessFlags := 16409, slot := 14, constantValue := 0 }, { name := "MOVED_PERMANENTLY", type := (.object "com/example/calm_current/calmcurrent/http/HttpStatus"), accessFlags := 16409, slot := 15, constantValue := 0 }, { name := "FOUND", type := (.object "com/example/calm_current/calmcurrent/http/HttpStatus"), accessFlags := 16409, slot := 16, constantValue := 0 }, { name := "SEE_OTHER", type := (.object "com/example/calm_current/calmcurrent/http/HttpStatus"), accessFlags := 16409, slot := 17, constantValue := 0 }, { name := "NOT_MODIFIED", type := (.object "com/example/calm_current/calmcurrent/http/HttpStatus"), accessFlags := 16409, slot := 18, constantValue := 0 }, { name := "TEMPORARY_REDIRECT", type := (.object "com/example/calm_current/calmcurrent/http/HttpStatus"), accessFlags := 16409, slot := 19, constantValue := 0 }, { name := "PERMANENT_REDIRECT", type := (.object "com/example/calm_current/calmcurrent/http/HttpStatus"), accessFlags := 16409, slot := 20, constantValue := 0 }, { name := "BAD_REQUEST", type := (.object "com/example/calm_current/calmcurrent/http/HttpStatus"), accessFlags := 16409, slot := 21, constantValue := 0 }, { name := "UNAUTHORIZED", type := (.object "com/example/calm_current/calmcurrent/http/HttpStatus"), accessFlags := 16409, slot := 22, constantValue := 0 }, { name := "PAYMENT_REQUIRED", type := (.object "com/example/calm_current/calmcurrent/http/HttpStatus"), accessFlags := 16409, slot := 23, constantValue := 0 }, { name := "FORBIDDEN", type := (.object "com/example/calm_current/calmcurrent/http/HttpStatus"), accessFlags := 16409, slot := 24, constantValue := 0 }, { name := "NOT_FOUND", type := (.object "com/example/calm_current/calmcurrent/http/HttpStatus"), accessFlags := 16409, slot := 25, constantValue := 0 }, { name := "METHOD_NOT_ALLOWED", type := (.object "com/example/calm_current/calmcurrent/http/HttpStatus"), accessFlags := 16409, slot := 26, constantValue := 0 }, { name := "NOT_ACCEPTABLE", type := (.object "com/example/calm_current/calmcurrent/http/HttpStatus"), accessFlags := 16409, slot := 27, constantValue := 0 }, { name := "PROXY_AUTHENTICATION_REQUIRED", type := (.object "com/example/calm_current/calmcurrent/http/HttpStatus"), accessFlags := 16409, slot := 28, constantValue := 0 }, { name := "REQUEST_TIMEOUT", type := (.object "com/example/calm_current/calmcurrent/http/HttpStatus"), accessFlags := 16409, slot := 29, constantValue := 0 }, { name := "CONFLICT", type := (.object "com/example/calm_current/calmcurrent/http/HttpStatus"), accessFlags := 16409, slot := 30, constantValue := 0 }, { name := "GONE", type := (.object "com/example/calm_current/calmcurrent/http/HttpStatus"), accessFlags := 16409, slot := 31, constantValue := 0 }, { name := "LENGTH_REQUIRED", type := (.object "com/example/calm_current/calmcurrent/http/HttpStatus"), accessFlags := 16409, slot := 32, constantValue := 0 }, { name := "PRECONDITION_FAILED", type := (.object "com/example/calm_current/calmcurrent/http/HttpStatus"), accessFlags := 16409, slot := 33, constantValue := 0 }, { name := "CONTENT_TOO_LARGE", type := (.object "com/example/calm_current/calmcurrent/http/HttpStatus"), accessFlags := 16409, slot := 34, constantValue := 0 }, { name := "URI_TOO_LONG", type := (.object "com/example/calm_current/calmcurrent/http/HttpStatus"), accessFlags := 16409, slot := 35, constantValue := 0 }, { name := "UNSUPPORTED_MEDIA_TYPE", type := (.object "com/example/calm_current/calmcurrent/http/HttpStatus"), accessFlags := 16409, slot := 36, constantValue := 0 }, { name := "RANGE_NOT_SATISFIABLE", type := (.object "com/example/calm_current/calmcurrent/http/HttpStatus"), accessFlags := 16409, slot := 37, constantValue := 0 }, { name := "EXPECTATION_FAILED", type := (.object "com/example/calm_current/calmcurrent/http/HttpStatus"), accessFlags := 16409, slot := 38, constantValue := 0 }, { name := "MISDIRECTED_REQUEST", type := (.object "com/example/calm_current/calmcurrent/http/HttpStatus"), accessFlags := 16409, slot := 39, constantValue := 0 }, { name := "UNPROCESSABLE_CONTENT", type := (.object "com/example/calm_current/calmcurrent/http/HttpStatus"), accessFlags := 16409, slot := 40, constantValue := 0 }, { name := "LOCKED", type := (.object "com/example/calm_current/calmcurrent/http/HttpStatus"), accessFlags := 16409, slot := 41, constantValue := 0 }, { name := "FAILED_DEPENDENCY", type := (.object "com/example/calm_current/calmcurrent/http/HttpStatus"), accessFlags := 16409, slot := 42, constantValue := 0 }, { name := "TOO_EARLY", type := (.object "com/example/calm_current/calmcurrent/http/HttpStatus"), accessFlags := 16409, slot := 43, constantValue := 0 }, { name := "UPGRADE_REQUIRED", type := (.object "com/example/calm_current/calmcurrent/http/HttpStatus"), accessFlags := 16409, slot := 44, constantValue := 0 }, { name := "PRECONDITION_REQUIRED", type := (.object "com/example/calm_current/calmcurrent/http/HttpStatus"), accessFlags := 16409, slot := 45, constantValue := 0 }, { name := "TOO_MANY_REQUESTS", type := (.object "com/example/calm_current/calmcurrent/http/HttpStatus"), accessFlags := 16409, slot := 46, constantValue := 0 }, { name := "REQUEST_HEADER_FIELDS_TOO_LARGE", type := (.object "com/example/calm_current/calmcurrent/http/HttpStatus"), accessFlags := 16409, slot := 47, constantValue := 0 }, { name := "UNAVAILABLE_FOR_LEGAL_REASONS", type := (.object "com/example/calm_current/calmcurrent/http/HttpStatus"), accessFlags := 16409, slot := 48, constantValue := 0 }, { name := "INTERNAL_SERVER_ERROR", type := (.object "com/example/calm_current/calmcurrent/http/HttpStatus"), accessFlags := 16409, slot := 49, constantValue := 0 }, { name := "NOT_IMPLEMENTED", type := (.object "com/example/calm_current/calmcurrent/http/HttpStatus"), accessFlags := 16409, slot := 50, constantValue := 0 }, { name := "BAD_GATEWAY", type := (.object "com/example/calm_current/calmcurrent/http/HttpStatus"), accessFlags := 16409, slot := 51, constantValue := 0 }, { name := "SERVICE_UNAVAILABLE", type := (.object "com/example/calm_current/calmcurrent/http/HttpStatus"), accessFlags := 16409, slot := 52, constantValue := 0 }, { name := "GATEWAY_TIMEOUT", type := (.object "com/example/calm_current/calmcurrent/http/HttpStatus"), accessFlags := 16409, slot := 53, constantValue := 0 }, { name := "HTTP_VERSION_NOT_SUPPORTED", type := (.object "com/example/calm_current/calmcurrent/http/HttpStatus"), accessFlags := 16409, slot := 54, constantValue := 0 }, { name := "VARIANT_ALSO_NEGOTIATES", type := (.object "com/example/calm_current/calmcurrent/http/HttpStatus"), accessFlags := 16409, slot := 55, constantValue := 0 }, { name := "INSUFFICIENT_STORAGE", type := (.object "com/example/calm_current/calmcurrent/http/HttpStatus"), accessFlags := 16409, slot := 56, constantValue := 0 }, { name := "LOOP_DETECTED", type := (.object "com/example/calm_current/calmcurrent/http/HttpStatus"), accessFlags := 16409, slot := 57, constantValue := 0 }, { name := "NETWORK_AUTHENTICATION_REQUIRED", type := (.object "com/example/calm_current/calmcurrent/http/HttpStatus"), accessFlags := 16409, slot := 58, constantValue := 0 }, { name := "_value", type := .int, accessFlags := 18, slot := 3, constantValue := 0 }, { name := "_reasonPhrase", type := (.object "java/lang/String"), accessFlags := 18, slot := 4, constantValue := 0 }, { name := "BY_CODE", type := (.object "java/util/Map"), accessFlags := 26, slot := 59, constantValue := 0 }, { name := "$VALUES", type := (.array (.object "com/example/calm_current/calmcurrent/http/HttpStatus")), accessFlags := 4122, slot := 60, constantValue := 0 }]
  methods := #[k6m0, k6m1]
  instanceTypes := #[(.object "java/lang/String"), .int, .int, .int, (.object "java/lang/String")]
  staticTypes := #[(.object "com/example/calm_current/calmcurrent/http/HttpStatus"), (.object "com/example/calm_current/calmcurrent/http/HttpStatus"), (.object "com/example/calm_current/calmcurrent/http/HttpStatus"), (.object "com/example/calm_current/calmcurrent/http/HttpStatus"), (.object "com/example/calm_current/calmcurrent/http/HttpStatus"), (.object "com/example/calm_current/calmcurrent/http/HttpStatus"), (.object "com/example/calm_current/calmcurrent/http/HttpStatus"), (.object "com/example/calm_current/calmcurrent/http/HttpStatus"), (.object "com/example/calm_current/calmcurrent/http/HttpStatus"), (.object "com/example/calm_current/calmcurrent/http/HttpStatus"), (.object "com/example/calm_current/calmcurrent/http/HttpStatus"), (.object "com/example/calm_current/calmcurrent/http/HttpStatus"), (.object "com/example/calm_current/calmcurrent/http/HttpStatus"), (.object "com/example/calm_current/calmcurrent/http/HttpStatus"), (.object "com/example/calm_current/calmcurrent/http/HttpStatus"), (.object "com/example/calm_current/calmcurrent/http/HttpStatus"), (.object "com/example/calm_current/calmcurrent/http/HttpStatus"), (.object "com/example/calm_current/calmcurrent/http/HttpStatus"), (.object "com/example/calm_current/calmcurrent/http/HttpStatus"), (.object "com/example/calm_current/calmcurrent/http/HttpStatus"), (.object "com/example/calm_current/calmcurrent/http/HttpStatus"), (.object "com/example/calm_current/calmcurrent/http/HttpStatus"), (.object "com/example/calm_current/calmcurrent/http/HttpStatus"), (.object "com/example/calm_current/calmcurrent/http/HttpStatus"), (.object "com/example/calm_current/calmcurrent/http/HttpStatus"), (.object "com/example/calm_current/calmcurrent/http/HttpStatus"), (.object "com/example/calm_current/calmcurrent/http/HttpStatus"), (.object "com/example/calm_current/calmcurrent/http/HttpStatus"), (.object "com/example/calm_current/calmcurrent/http/HttpStatus"), (.object "com/example/calm_current/calmcurrent/http/HttpStatus"), (.object "com/example/calm_current/calmcurrent/http/HttpStatus"), (.object "com/example/calm_current/calmcurrent/http/HttpStatus"), (.object "com/example/calm_current/calmcurrent/http/HttpStatus"), (.object "com/example/calm_current/calmcurrent/http/HttpStatus"), (.object "com/example/calm_current/calmcurrent/http/HttpStatus"), (.object "com/example/calm_current/calmcurrent/http/HttpStatus"), (.object "com/example/calm_current/calmcurrent/http/HttpStatus"), (.object "com/example/calm_current/calmcurrent/http/HttpStatus"), (.object "com/example/calm_current/calmcurrent/http/HttpStatus"), (.object "com/example/calm_current/calmcurrent/http/HttpStatus"), (.object "com/example/calm_current/calmcurrent/http/HttpStatus"), (.object "com/example/calm_current/calmcurrent/http/HttpStatus"), (.object "com/example/calm_current/calmcurrent/http/HttpStatus"), (.object "com/example/calm_current/calmcurrent/http/HttpStatus"), (.object "com/example/calm_current/calmcurrent/http/HttpStatus"), (.object "com/example/calm_current/calmcurrent/http/HttpStatus"), (.object "com/example/calm_current/calmcurrent/http/HttpStatus"), (.object "com/example/calm_current/calmcurrent/http/HttpStatus"), (.object "com/example/calm_current/calmcurrent/http/HttpStatus"), (.object "com/example/calm_current/calmcurrent/http/HttpStatus"), (.object "com/example/calm_current/calmcurrent/http/HttpStatus"), (.object "com/example/calm_current/calmcurrent/http/HttpStatus"), (.object "com/example/calm_current/calmcurrent/http/HttpStatus"), (.object "com/example/calm_current/calmcurrent/http/HttpStatus"), (.object "com/example/calm_current/calmcurrent/http/HttpStatus"), (.object "com/example/calm_current/calmcurrent/http/HttpStatus"), (.object "com/example/calm_current/calmcurrent/http/HttpStatus"), (.object "com/example/calm_current/calmcurrent/http/HttpStatus"), (.object "com/example/calm_current/calmcurrent/http/HttpStatus"), (.object "java/util/Map"), (.array (.object "com/example/calm_current/calmcurrent/http/HttpStatus"))]
  resolved := Array.replicate 490 none
  statics := some 0 }

def pool7 : Array CpInfo := pool [(1, u "java/lang/Cloneable"), (0, .class_ 1), (0, u "java/lang/Object"), (0, .class_ 3)] 3

/-- java/lang/Cloneable -/
def k7 : Class := { plain "java/lang/Cloneable" (some 0) with
  accessFlags := 1537
  interfaces := #[]
  cf := some (fileOf pool7 2 #[] #[] 1537 4 #[] #[])
  fields := #[]
  methods := #[]
  instanceTypes := #[]
  staticTypes := #[]
  resolved := Array.replicate 8 none
  statics := none }

/-- the primitive byte -/
def k8 : Class := { plain "byte" none with kind := .primitive 'B', accessFlags := 0x411 }
/-- [B -/
def k9 : Class := { plain "[B" (some 0) with kind := .array 8 .byte, interfaces := #[7, 4], accessFlags := 1041 }

def heap : Heap := #[{ cls := 6, slots := #[.null, .null, .null, .null, .ref 1, .null, .null, .null, .ref 2, .null, .null, .null, .null, .null, .null, .null, .null, .null, .ref 3, .null, .null, .null, .null, .null, .null, .null, .null, .null, .null, .null, .null, .null, .null, .null, .null, .null, .null, .null, .null, .null, .null, .null, .null, .null, .null, .null, .null, .null, .null, .null, .null, .null, .null, .null, .null, .null, .null, .null, .null, .null, .null], vm := .statics 6 },
  { cls := 6, slots := #[.null, .int 0, .int 0, .int 200, .null], vm := .none },
  { cls := 6, slots := #[.null, .int 0, .int 0, .int 204, .null], vm := .none },
  { cls := 6, slots := #[.null, .int 0, .int 0, .int 304, .null], vm := .none }]
def classes : Array Class := #[k0, k1, k2, k3, k4, k5, k6, k7, k8, k9]
def interned : List (Array UInt16 × Addr) := []
def slotsUsed : Nat := 76
def theMethod : MethodId := ⟨1, 1⟩
def args0 : Array Value := #[.int 5]
def aboutOver (below : List Frame) : State where
  vm := { classes := classes, interned := interned.toArray }
  heap := heap
  slotsUsed := slotsUsed
  threads := #[{ frames := .invoking theMethod args0 :: below }]
def below0 : List Frame := [.native { method := ⟨0, 0⟩, args := #[] }]
def about1 : State := aboutOver below0
def p0 : Program := .bare "" "" ""
def e0 : Env := launch0.env 0 0 0
theorem w_frames : about1.frames = Frame.invoking theMethod args0 :: below0 := rfl
set_option maxRecDepth 65536 in
theorem w_args : argsFit about1.vm theMethod args0 = true := by decide +kernel
set_option maxRecDepth 65536 in
theorem w_heap : heapFits about1 = true := by decide +kernel
set_option maxRecDepth 65536 in
theorem w_runnable : about1.curStatus? = some .runnable := by decide +kernel
set_option maxRecDepth 65536 in
theorem w_alone : about1.alone = true := by decide +kernel
set_option maxRecDepth 65536 in
theorem w_named : about1.methodNamed? x = some theMethod := by decide +kernel
set_option maxRecDepth 65536 in
theorem w_hears : about1.hears theMethod below0 = true := by decide +kernel
set_option maxRecDepth 65536 in
theorem w_ripe : about1.ripe theMethod args0 below0 = true := by decide +kernel
theorem w_running : about1.status = .running := rfl
set_option maxRecDepth 65536 in
theorem w_room : about1.hasRoom e0.platform room_1 = true :=
  launch0.hasRoom_least _ room_1 (by decide +kernel) (by decide +kernel) (by decide +kernel) (by decide +kernel) (by decide +kernel) (by decide +kernel)
theorem allAtoms_all (ts : List Jvm.Cond) (a : Array Jvm.Value) (st : Jvm.State) : (allAtoms ts).before a st = ts.all (fun c => c.before a st) := by
  induction ts with
  | nil => rfl
  | cons c t ih =>
    show (Jvm.Cond.and c (allAtoms t)).before a st = _
    rw [Jvm.Cond.before_and, ih, List.all_cons]
def words1 : List Jvm.Cond := Jvm.Cond.code x code maxLocals ret :: tables_1
/-- a 'code' word, met by the world's own term for the bytes: nothing is compared byte by byte -/
theorem code_word {y : MethodName} {bytes : ByteArray} {mx : Nat} {rt : Option FieldType} {a : Array Value} {s : State} {m : MethodId} {meth : Method} {c : Code} (h1 : s.methodNamed? y = some m) (h2 : s.vm.method? m = some meth) (h3 : meth.code = some c) (h4 : c.code = bytes)
    (h5 : (c.maxLocals == mx && c.exceptionTable.isEmpty && decide (c.maxStack ≤ mostOperands) && decide (meth.sig.returnType = rt) && !meth.locks && decide (parseMethodDescriptor y.desc = some meth.sig)) = true) : (Jvm.Cond.code y bytes mx rt).before a s = true := by
  simp only [Bool.and_eq_true, beq_iff_eq, Bool.not_eq_true', decide_eq_true_eq] at h5
  obtain ⟨⟨⟨⟨⟨g1, g2⟩, g3⟩, g4⟩, g5⟩, g6⟩ := h5
  simp [Cond.before, Cond.holds, Cond.value, h1, h2, h3, h4, g1, g2, g3, g4, g5, g6]
def isCode : Jvm.Cond → Bool
  | .code _ _ _ _ => true
  | _ => false
theorem all_split {L : List Jvm.Cond} {P : Jvm.Cond → Bool} (h1 : L.all (fun c => isCode c || P c) = true) (h2 : ∀ c ∈ L.filter isCode, P c = true) : L.all P = true := by
  refine List.all_eq_true.mpr fun c hc => ?_
  have h := List.all_eq_true.mp h1 c hc
  rcases Bool.eq_false_or_eq_true (isCode c) with hi | hi
  · exact h2 c (List.mem_filter.mpr ⟨hc, hi⟩)
  · simpa [hi] using h
set_option maxRecDepth 65536 in
theorem w_c0 : (Jvm.Cond.code x code maxLocals ret).before args0 about1 = true := code_word (m := ⟨1, 1⟩) (meth := k1m1) (c := k1c1) (by decide +kernel) rfl rfl rfl (by decide +kernel)
set_option maxRecDepth 65536 in
theorem w_c1 : (Jvm.Cond.code ({ cls := "com/example/calm_current/calmcurrent/http/HttpStatus", name := "mayHaveContentLength", desc := "(I)Z" } : Jvm.MethodName) prog_14_method_5_code (1 : Nat) (Option.some Jvm.ClassFile.FieldType.boolean)).before args0 about1 = true := code_word (m := ⟨6, 0⟩) (meth := k6m0) (c := k6c0) (by decide +kernel) rfl rfl rfl (by decide +kernel)
set_option maxRecDepth 65536 in
theorem w_c2 : (Jvm.Cond.code ({ cls := "com/example/calm_current/calmcurrent/http/HttpStatus", name := "value", desc := "()I" } : Jvm.MethodName) prog_14_method_6_code (1 : Nat) (Option.some Jvm.ClassFile.FieldType.int)).before args0 about1 = true := code_word (m := ⟨6, 1⟩) (meth := k6m1) (c := k6c1) (by decide +kernel) rfl rfl rfl (by decide +kernel)
def codes1 : List Jvm.Cond := [Jvm.Cond.code x code maxLocals ret, Jvm.Cond.code ({ cls := "com/example/calm_current/calmcurrent/http/HttpStatus", name := "mayHaveContentLength", desc := "(I)Z" } : Jvm.MethodName) prog_14_method_5_code (1 : Nat) (Option.some Jvm.ClassFile.FieldType.boolean), Jvm.Cond.code ({ cls := "com/example/calm_current/calmcurrent/http/HttpStatus", name := "value", desc := "()I" } : Jvm.MethodName) prog_14_method_6_code (1 : Nat) (Option.some Jvm.ClassFile.FieldType.int)]
set_option maxRecDepth 65536 in
theorem codes_eq : words1.filter isCode = codes1 := rfl
theorem w_codes : ∀ c ∈ words1.filter isCode, c.before args0 about1 = true := by
  rw [codes_eq]
  intro c hc
  simp only [codes1, List.mem_cons, List.not_mem_nil, or_false] at hc
  rcases hc with rfl | rfl | rfl
  · exact w_c0
  · exact w_c1
  · exact w_c2
set_option maxRecDepth 65536 in
theorem w_t1 : words1.all (fun c => isCode c || c.before args0 about1) = true := by decide +kernel
theorem w_tables : (allAtoms (Jvm.Cond.code x code maxLocals ret :: tables_1)).before args0 about1 = true := by
  rw [allAtoms_all]
  show words1.all (fun c => c.before args0 about1) = true
  refine all_split ?_ w_codes
  rw [w_t1]
set_option maxRecDepth 65536 in
theorem w_case : (Jvm.Cond.and given_1 narrow_1).before args0 about1 = true := by decide +kernel
theorem w_applies : (headSpec (Jvm.Cond.code x code maxLocals ret :: tables_1) room_1).applies x e0.platform about1 = true :=
  (Spec.applies_iff w_frames).mpr ⟨w_running, w_runnable, w_alone, w_named, w_hears, w_ripe, w_room, w_tables⟩
theorem atStart : AtStart classFile x code maxLocals ret World_1 tables_1 room_1 Calls_1 rest_1 Pre_1 launch0 p0 e0 about1 theMethod args0 below0 :=
  ⟨lists_1, trivial, launch0.admits_env _ _ _, launch0.least_env, fairChoices_fair.cas, fairChoices_fair.clock, w_frames, w_args, w_heap, w_applies, trivial, trivial, w_case⟩
end start1
theorem witness_1 : WitnessClaimed_1 := ⟨start1.p0, start1.e0, start1.about1, start1.theMethod, start1.args0, start1.below0, start1.atStart⟩
end Jvm.Pilot.@@N@@
