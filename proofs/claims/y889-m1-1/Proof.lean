import JvmDerived
import JvmDerived.Pilot.@@N@@Statement
import JvmDerived.Pilot.@@N@@Code
set_option linter.unusedVariables false
set_option linter.unusedSimpArgs false
namespace Jvm.RoadKit
open Sem ClassFile Op Lib Jvm.Stand Jvm.Free Jvm.LawKit
section New
variable {p : Program} {l : Launch} {e : Env} {R : Room} {s : State} {m : MethodId} {args : Array Value} {below : List Frame} {meth : Method} {c : Code} {T : State} {locs : List Loc} {cells slots : Nat}
theorem retI (X : Stand p l e R s m args below meth c T locs cells slots) (hx : p.tables.exec = Jvm.exec) {pc : Nat} {Ls : Array Slot} {z : Int32} {rest : List Value} (hret : meth.sig.returnType = some .int) (hd : decode c.code pc = .ok (.ireturn, 1)) {fs : List Frame}
    (hl : ∀ (f : JFrame) (acts : List Action), f.method = m → f.locked = none → f.entered = [] → (doReturn e (T.setTop f) acts (some (.int z))).1 = T.setFrames fs) : Steps p.tables e below (T.setTop (mkF m pc Ls (.int z :: rest))) (T.setFrames fs) :=
  retOut X hx hret rfl (Or.inl ⟨rfl, Or.inl rfl, z, rfl⟩) hd hl
theorem retL (X : Stand p l e R s m args below meth c T locs cells slots) (hx : p.tables.exec = Jvm.exec) {pc : Nat} {Ls : Array Slot} {z : Int64} {rest : List Value} (hret : meth.sig.returnType = some .long) (hd : decode c.code pc = .ok (.lreturn, 1)) {fs : List Frame}
    (hl : ∀ (f : JFrame) (acts : List Action), f.method = m → f.locked = none → f.entered = [] → (doReturn e (T.setTop f) acts (some (.long z))).1 = T.setFrames fs) : Steps p.tables e below (T.setTop (mkF m pc Ls (.long z :: rest))) (T.setFrames fs) :=
  retOut X hx hret rfl (Or.inr (Or.inl ⟨rfl, rfl, z, rfl⟩)) hd hl
theorem retA (X : Stand p l e R s m args below meth c T locs cells slots) (hx : p.tables.exec = Jvm.exec) {pc : Nat} {Ls : Array Slot} {t : FieldType} {w : Value} {rest : List Value} (hret : meth.sig.returnType = some t) (ht : t.isReference = true) (hw : w.isRef = true) (hn : narrow t w = w) (hd : decode c.code pc = .ok (.areturn, 1)) {fs : List Frame}
    (hl : ∀ (f : JFrame) (acts : List Action), f.method = m → f.locked = none → f.entered = [] → (doReturn e (T.setTop f) acts (some w)).1 = T.setFrames fs) : Steps p.tables e below (T.setTop (mkF m pc Ls (w :: rest))) (T.setFrames fs) :=
  retOut X hx hret hn (Or.inr (Or.inr (Or.inr (Or.inr ⟨rfl, ht, hw⟩)))) hd hl
end New
theorem own_fld {args : Array Value} {s : State} {t : Term} {C n d : String} {k : Int32} {w : Addr} (h : (Cond.eq (Term.field t C n d) (Term.int k)).value args s none s [] = some true) (ev : t.eval args s none [] s = some (.ref w)) : Fld s s.heap w C n d (.int k) := by
  have e1 : (Term.field t C n d).eval args s none [] s = s.fieldOf? w C n d := fld_at ev
  have e2 : (Term.int k).eval args s none [] s = some (.int k) := rfl
  obtain ⟨x, y, ex, ey, k1, k2⟩ := cmp_v (Or.inl h)
  cases e2.symm.trans ey
  obtain ⟨z, rfl⟩ := k2
  have q : z = k := gotT (P := z = k) (Cond.eq_ints ex e2) h
  subst q
  exact Fld.start (e1.symm.trans ex)
end Jvm.RoadKit
namespace Jvm.Pilot.@@N@@
open Jvm Jvm.ClassFile Sem Op Lib Jvm.Free Jvm.Stand Jvm.LawKit Jvm.RoadKit Bundle Jvm.Pilot.@@N@@.Jvm.D
def own_QP (r : Option Value) (n0 : Nat) (h0 : Heap) (v : Option Value) (h : Heap) (L : List Loc) : Prop := v = r ∧ Fr n0 L ∧ h = h0
def own_Q1 (n0 : Nat) (v : Option Value) (h : Heap) (L : List Loc) : Prop := v = some (.int (1 : Int32)) ∧ Fr n0 L

theorem d1_0 : decode prog_60_method_7_code 0 = .ok (.aload_n 0, 1) := by decide +kernel
theorem d1_1 : decode prog_60_method_7_code 1 = .ok (.getstatic 3, 3) := by decide +kernel
theorem d1_4 : decode prog_60_method_7_code 4 = .ok (.if_acmp .ne 9, 3) := by decide +kernel
theorem d1_7 : decode prog_60_method_7_code 7 = .ok (.getstatic 7, 3) := by decide +kernel
theorem d1_10 : decode prog_60_method_7_code 10 = .ok (.goto 6, 3) := by decide +kernel
theorem d1_13 : decode prog_60_method_7_code 13 = .ok (.getstatic 3, 3) := by decide +kernel
theorem d1_16 : decode prog_60_method_7_code 16 = .ok (.areturn, 1) := by decide +kernel
theorem pn_0 : plainName "com/example/firm_warden/firmwarden/policy/Effect" = true := by first | (simp [plainName, overriddenIn]; done) | decide +kernel
theorem ef_1_R (m : MethodId) (x0 : Addr) : entryFrame m #[(.ref x0)] 1 = mkF m 0 #[.val (.ref x0)] [] := by first | (simp [entryFrame, mkF, argsToLocals, Value.category]; done) | rfl
theorem pd_2 : parseMethodDescriptor "()Lcom/example/firm_warden/firmwarden/policy/Effect;" = some ⟨[], some (.object "com/example/firm_warden/firmwarden/policy/Effect")⟩ := by decide +kernel
theorem pn_3 : plainName "com/example/firm_warden/firmwarden/policy/EffectOppositePinLaw" = true := by first | (simp [plainName, overriddenIn]; done) | decide +kernel
theorem ef_0_I (m : MethodId) (x0 : Int32) : entryFrame m #[(.int x0)] maxLocals = mkF m 0 #[.val (.int x0), .unset, .unset, .unset, .unset] [] := by first | (simp [entryFrame, mkF, argsToLocals, Value.category, maxLocals]; done) | rfl
set_option maxRecDepth 65536 in
set_option maxHeartbeats 40000000 in
theorem rm1_0 (l : Launch) (Z : State) (a0 : Array Value) (hw : ∀ d ∈ tables_1, d.before a0 Z = true) (w_PERMIT : Addr) (w_DENY : Addr) (h0 : Heap) (n0 : Nat) (O0 : Old Z n0 h0) (P1 : Sta Z Z.heap "com/example/firm_warden/firmwarden/policy/Effect" "PERMIT" "Lcom/example/firm_warden/firmwarden/policy/Effect;" (.ref w_PERMIT)) (P2 : Sta Z Z.heap "com/example/firm_warden/firmwarden/policy/Effect" "DENY" "Lcom/example/firm_warden/firmwarden/policy/Effect;" (.ref w_DENY)) :
    MetFree l (⟨"com/example/firm_warden/firmwarden/policy/Effect", "opposite", "()Lcom/example/firm_warden/firmwarden/policy/Effect;"⟩ : MethodName) (head1 [Jvm.Cond.code (⟨"com/example/firm_warden/firmwarden/policy/Effect", "opposite", "()Lcom/example/firm_warden/firmwarden/policy/Effect;"⟩ : MethodName) prog_60_method_7_code 1 (some (.object "com/example/firm_warden/firmwarden/policy/Effect"))] ({ frames := 0, cells := 0, slots := 0, locals := 0 } : Room)) (fun a U => a = #[(.ref w_PERMIT)] ∧ Z.Warmed39 U.vm ∧ U.heap = h0) (fun _ _ _ _ _ => True) (fun _ U o U' => ∃ v L, o = .returned v ∧ own_QP (some (.ref w_DENY)) n0 h0 v U'.heap L ∧ FrameEnd U o U' L ({ frames := 0, cells := 0, slots := 0, locals := 0 } : Room).cells ({ frames := 0, cells := 0, slots := 0, locals := 0 } : Room).slots) := by
  refine MetFree.of_bodySF (plainFor_of_name pn_0) hisR ?_
  intro p e s m args below meth c s₁ Bd hml0 hP hK
  obtain ⟨rfl, hZ, hh⟩ := hP
  have hx := Bd.exec
  have hby := Bd.bytes
  have hml : c.maxLocals = 1 := hml0
  have hown : s.vm.findClass "com/example/firm_warden/firmwarden/policy/Effect" = some m.cls := findClass_of_methodNamed Bd.named
  have hnm := (name_of_methodNamed Bd.named Bd.method).1
  have X0 : Stand p l e ({ frames := 0, cells := 0, slots := 0, locals := 0 } : Room) s m #[(.ref w_PERMIT)] below meth c s₁ [] 0 0 := Stand.of_body Bd
  have e0 : s₁.heap = h0 := by rw [← hh, Bd.state]; rfl
  have N0 := Fr.nil n0
  have pre0 : ∀ t, Steps p.tables e below (s₁.setTop (mkF m 0 #[.val (.ref w_PERMIT)] [])) t → Steps p.tables e below (s₁.setTop (entryFrame m #[(.ref w_PERMIT)] 1)) t := fun t k => castTop (ef_1_R m w_PERMIT) k
  obtain ⟨T1, X1, e1, st1⟩ := getS2 X0 hx hZ hown (host := "") (Or.inl (hw _ (List.mem_of_getElem? (i := 10) rfl))) Via.refl e0 (P1.ext O0.2) (g := (mkF m 1 #[.val (.ref w_PERMIT)] [(.ref w_PERMIT)])) rfl (hb hby d1_1)
  obtain ⟨T2, X2, e2, st2⟩ := getS2 X1 hx hZ hown (host := "") (Or.inl (hw _ (List.mem_of_getElem? (i := 11) rfl))) Via.refl e1 (P2.ext O0.2) (g := (mkF m 7 #[.val (.ref w_PERMIT)] [])) rfl (hb hby d1_7)
  obtain ⟨fs, hr, hrun, hended, hW, hsame⟩ := X2.leave (v := (some (.ref w_DENY))) (fun h => by rw [Bd.returns] at h; cases h)
  refine ⟨_, _, pre0 _ ?_, hrun, hended, _, _, rfl, ?_, ⟨_, rfl⟩, hW, hsame.mono (by decide) (by decide)⟩
  · show Steps p.tables e below (s₁.setTop (mkF m 0 #[.val (.ref w_PERMIT)] [])) _
    refine XS.aloadN X0.here hx rfl (hb hby d1_0) rfl rfl ?_
    show Steps p.tables e below (s₁.setTop (mkF m 1 #[.val (.ref w_PERMIT)] [(.ref w_PERMIT)])) _
    refine st1 _ ?_
    show Steps p.tables e below (T1.setTop (mkF m 4 #[.val (.ref w_PERMIT)] [(.ref w_PERMIT), (.ref w_PERMIT)])) _
    refine Jvm.RoadKit.acmp (g := (mkF m 4 #[.val (.ref w_PERMIT)] [(.ref w_PERMIT), (.ref w_PERMIT)])) X1 hx rfl rfl rfl (pc0 := 4) (pc' := 7) (same := true) rfl (hb hby d1_4) rfl (decide_eq_true rfl) (by decide) (by decide) ?_
    show Steps p.tables e below (T1.setTop (mkF m 7 #[.val (.ref w_PERMIT)] [])) _
    refine st2 _ ?_
    show Steps p.tables e below (T2.setTop (mkF m 10 #[.val (.ref w_PERMIT)] [(.ref w_DENY)])) _
    refine XS.goto X2.here hx rfl (pc0 := 10) (pc' := 16) rfl (hb hby d1_10) (by decide) (by decide) ?_
    show Steps p.tables e below (T2.setTop (mkF m 16 #[.val (.ref w_PERMIT)] [(.ref w_DENY)])) _
    exact retA X2 hx Bd.returns rfl rfl rfl (hb hby d1_16) hr
  · show own_QP (some (.ref w_DENY)) n0 h0 _ T2.heap _
    rw [e2]
    exact ⟨rfl, N0, rfl⟩
set_option maxRecDepth 65536 in
set_option maxHeartbeats 40000000 in
theorem rm1_1 (l : Launch) (Z : State) (a0 : Array Value) (hw : ∀ d ∈ tables_1, d.before a0 Z = true) (w_DENY : Addr) (w_PERMIT : Addr) (h0 : Heap) (n0 : Nat) (O0 : Old Z n0 h0) (P1 : Sta Z Z.heap "com/example/firm_warden/firmwarden/policy/Effect" "PERMIT" "Lcom/example/firm_warden/firmwarden/policy/Effect;" (.ref w_PERMIT)) (P2 : Fld Z Z.heap w_DENY "java/lang/Enum" "ordinal" "I" (.int (1 : Int32))) (P3 : Fld Z Z.heap w_PERMIT "java/lang/Enum" "ordinal" "I" (.int (0 : Int32))) :
    MetFree l (⟨"com/example/firm_warden/firmwarden/policy/Effect", "opposite", "()Lcom/example/firm_warden/firmwarden/policy/Effect;"⟩ : MethodName) (head1 [Jvm.Cond.code (⟨"com/example/firm_warden/firmwarden/policy/Effect", "opposite", "()Lcom/example/firm_warden/firmwarden/policy/Effect;"⟩ : MethodName) prog_60_method_7_code 1 (some (.object "com/example/firm_warden/firmwarden/policy/Effect"))] ({ frames := 0, cells := 0, slots := 0, locals := 0 } : Room)) (fun a U => a = #[(.ref w_DENY)] ∧ Z.Warmed39 U.vm ∧ U.heap = h0) (fun _ _ _ _ _ => True) (fun _ U o U' => ∃ v L, o = .returned v ∧ own_QP (some (.ref w_PERMIT)) n0 h0 v U'.heap L ∧ FrameEnd U o U' L ({ frames := 0, cells := 0, slots := 0, locals := 0 } : Room).cells ({ frames := 0, cells := 0, slots := 0, locals := 0 } : Room).slots) := by
  refine MetFree.of_bodySF (plainFor_of_name pn_0) hisR ?_
  intro p e s m args below meth c s₁ Bd hml0 hP hK
  obtain ⟨rfl, hZ, hh⟩ := hP
  have hx := Bd.exec
  have hby := Bd.bytes
  have hml : c.maxLocals = 1 := hml0
  have hown : s.vm.findClass "com/example/firm_warden/firmwarden/policy/Effect" = some m.cls := findClass_of_methodNamed Bd.named
  have hnm := (name_of_methodNamed Bd.named Bd.method).1
  have X0 : Stand p l e ({ frames := 0, cells := 0, slots := 0, locals := 0 } : Room) s m #[(.ref w_DENY)] below meth c s₁ [] 0 0 := Stand.of_body Bd
  have e0 : s₁.heap = h0 := by rw [← hh, Bd.state]; rfl
  have N0 := Fr.nil n0
  have pre0 : ∀ t, Steps p.tables e below (s₁.setTop (mkF m 0 #[.val (.ref w_DENY)] [])) t → Steps p.tables e below (s₁.setTop (entryFrame m #[(.ref w_DENY)] 1)) t := fun t k => castTop (ef_1_R m w_DENY) k
  obtain ⟨T1, X1, e1, st1⟩ := getS2 X0 hx hZ hown (host := "") (Or.inl (hw _ (List.mem_of_getElem? (i := 10) rfl))) Via.refl e0 (P1.ext O0.2) (g := (mkF m 1 #[.val (.ref w_DENY)] [(.ref w_DENY)])) rfl (hb hby d1_1)
  obtain ⟨T2, X2, e2, st2⟩ := getS2 X1 hx hZ hown (host := "") (Or.inl (hw _ (List.mem_of_getElem? (i := 10) rfl))) Via.refl e1 (P1.ext O0.2) (g := (mkF m 13 #[.val (.ref w_DENY)] [])) rfl (hb hby d1_13)
  obtain ⟨fs, hr, hrun, hended, hW, hsame⟩ := X2.leave (v := (some (.ref w_PERMIT))) (fun h => by rw [Bd.returns] at h; cases h)
  refine ⟨_, _, pre0 _ ?_, hrun, hended, _, _, rfl, ?_, ⟨_, rfl⟩, hW, hsame.mono (by decide) (by decide)⟩
  · show Steps p.tables e below (s₁.setTop (mkF m 0 #[.val (.ref w_DENY)] [])) _
    refine XS.aloadN X0.here hx rfl (hb hby d1_0) rfl rfl ?_
    show Steps p.tables e below (s₁.setTop (mkF m 1 #[.val (.ref w_DENY)] [(.ref w_DENY)])) _
    refine st1 _ ?_
    show Steps p.tables e below (T1.setTop (mkF m 4 #[.val (.ref w_DENY)] [(.ref w_PERMIT), (.ref w_DENY)])) _
    refine Jvm.RoadKit.acmp (g := (mkF m 4 #[.val (.ref w_DENY)] [(.ref w_PERMIT), (.ref w_DENY)])) X1 hx rfl rfl rfl (pc0 := 4) (pc' := 13) (same := false) rfl (hb hby d1_4) rfl (decide_eq_false fun q => (Fld.ne P2 P3 (by decide)) (Value.ref.inj q)) (by decide) (by decide) ?_
    show Steps p.tables e below (T1.setTop (mkF m 13 #[.val (.ref w_DENY)] [])) _
    refine st2 _ ?_
    show Steps p.tables e below (T2.setTop (mkF m 16 #[.val (.ref w_DENY)] [(.ref w_PERMIT)])) _
    exact retA X2 hx Bd.returns rfl rfl rfl (hb hby d1_16) hr
  · show own_QP (some (.ref w_PERMIT)) n0 h0 _ T2.heap _
    rw [e2]
    exact ⟨rfl, N0, rfl⟩
set_option maxRecDepth 65536 in
set_option maxHeartbeats 40000000 in
theorem law_0 (l : Launch) (Z : State) (a0 : Array Value) (hw : ∀ d ∈ tables_1, d.before a0 Z = true) (ws : List Jvm.Cond) (p1 : Int32) (w_PERMIT : Addr) (w_DENY : Addr) (h0 : Heap) (n0 : Nat) (O0 : Old Z n0 h0) (P1 : (p1 &&& (1 : Int32)) = (0 : Int32)) (P2 : Sta Z Z.heap "com/example/firm_warden/firmwarden/policy/Effect" "PERMIT" "Lcom/example/firm_warden/firmwarden/policy/Effect;" (.ref w_PERMIT)) (P3 : Sta Z Z.heap "com/example/firm_warden/firmwarden/policy/Effect" "DENY" "Lcom/example/firm_warden/firmwarden/policy/Effect;" (.ref w_DENY)) (P4 : Exa Z Z.heap w_PERMIT "com/example/firm_warden/firmwarden/policy/Effect") (P5 : Fld Z Z.heap w_DENY "java/lang/Enum" "ordinal" "I" (.int (1 : Int32))) (P6 : Fld Z Z.heap w_PERMIT "java/lang/Enum" "ordinal" "I" (.int (0 : Int32))) (P7 : Exa Z Z.heap w_DENY "com/example/firm_warden/firmwarden/policy/Effect") :
    MetFree l x (head1 (Jvm.Cond.code x code maxLocals ret :: ws) room_1) (fun a U => a = #[(.int p1)] ∧ Z.Warmed39 U.vm ∧ U.heap = h0) (fun _ _ _ _ _ => True) (fun _ U o U' => ∃ v L, o = .returned v ∧ own_Q1 n0 v U'.heap L ∧ FrameEnd U o U' L room_1.cells room_1.slots) := by
  refine MetFree.of_bodySF (plainFor_of_name pn_3) hisR ?_
  intro p e s m args below meth c s₁ Bd hml0 hP hK
  obtain ⟨rfl, hZ, hh⟩ := hP
  have hx := Bd.exec
  have hby := Bd.bytes
  have hml : c.maxLocals = 5 := hml0
  have hown : s.vm.findClass "com/example/firm_warden/firmwarden/policy/EffectOppositePinLaw" = some m.cls := findClass_of_methodNamed Bd.named
  have hnm := (name_of_methodNamed Bd.named Bd.method).1
  have X0 : Stand p l e room_1 s m #[(.int p1)] below meth c s₁ [] 0 0 := Stand.of_body Bd
  have e0 : s₁.heap = h0 := by rw [← hh, Bd.state]; rfl
  have N0 := Fr.nil n0
  have pre0 : ∀ t, Steps p.tables e below (s₁.setTop (mkF m 0 #[.val (.int p1), .unset, .unset, .unset, .unset] [])) t → Steps p.tables e below (s₁.setTop (entryFrame m #[(.int p1)] maxLocals)) t := fun t k => castTop (ef_0_I m p1) k
  obtain ⟨T1, X1, e1, st1⟩ := getS2 X0 hx hZ hown (host := "") (Or.inl (hw _ (List.mem_of_getElem? (i := 0) rfl))) Via.refl e0 (P2.ext O0.2) (g := (mkF m 22 #[.val (.int p1), .val (.int (0 : Int32)), .unset, .unset, .unset] [])) rfl (hb hby at_22)
  obtain ⟨T2, X2, e2, st2⟩ := getS2 X1 hx hZ hown (host := "") (Or.inl (hw _ (List.mem_of_getElem? (i := 3) rfl))) Via.refl e1 (P3.ext O0.2) (g := (mkF m 36 #[.val (.int p1), .val (.int (0 : Int32)), .val (.ref w_PERMIT), .unset, .unset] [])) rfl (hb hby at_36)
  obtain ⟨cq3, kq3, q3a, q3b, q3c⟩ := isOf hZ e2 (P4.ext O0.2)
  obtain ⟨_, _, ⟨T3, L3, k3, n3⟩, -, X3, ⟨Lc3, hQ3, l3, y3, z3⟩, st3⟩ := X2.virtualBack hx (y := (⟨"com/example/firm_warden/firmwarden/policy/Effect", "opposite", "()Lcom/example/firm_warden/firmwarden/policy/Effect;"⟩ : MethodName)) (z := (⟨"com/example/firm_warden/firmwarden/policy/Effect", "opposite", "()Lcom/example/firm_warden/firmwarden/policy/Effect;"⟩ : MethodName)) hown (mvT hZ (hw _ (List.mem_of_getElem? (i := 5) rfl))) (mvT hZ (hw _ (List.mem_of_getElem? (i := 6) rfl))) (notFace_of_selects (args := #[]) (mvT hZ (hw _ (List.mem_of_getElem? (i := 8) rfl)))) (mvT hZ (hw _ (List.mem_of_getElem? (i := 8) rfl))) (mvT hZ (hw _ (List.mem_of_getElem? (i := 7) rfl))) (by decide) (backOf (W := 0) (rm1_0 l Z a0 hw w_PERMIT w_DENY h0 n0 O0 P2 P3) hZ (hw _ (List.mem_of_getElem? (i := 9) rfl)) (hw _ (List.mem_of_getElem? (i := 1) rfl)) (by decide) (by decide)) q3a q3c (g := (mkF m 41 #[.val (.int p1), .val (.int (0 : Int32)), .val (.ref w_PERMIT), .val (.ref w_DENY), .unset] [(.ref w_PERMIT)])) rfl (by rw [hml]; rfl) (Steps.refl _) (argsL := []) (rest := []) (lenOf pd_2 rfl) rfl (by show 2 * 0 + _ ≤ _; exact Nat.le_of_eq rfl) (hb hby at_41) (fun _ _ => ⟨rfl, e2, (by decide : 0 + 0 ≤ _), (by decide : 0 + 0 ≤ _)⟩)
  dsimp only [Pt.U, Pt.locs, Pt.cells, Pt.slots] at X3 l3 y3 z3 st3 hQ3
  subst l3 y3 z3
  obtain ⟨rfl, N3q, e3⟩ := hQ3
  have N3 := Fr.app N0 N3q
  obtain ⟨cq4, kq4, q4a, q4b, q4c⟩ := isOf hZ e3 (P7.ext O0.2)
  obtain ⟨_, _, ⟨T4, L4, k4, n4⟩, -, X4, ⟨Lc4, hQ4, l4, y4, z4⟩, st4⟩ := X3.virtualBack hx (y := (⟨"com/example/firm_warden/firmwarden/policy/Effect", "opposite", "()Lcom/example/firm_warden/firmwarden/policy/Effect;"⟩ : MethodName)) (z := (⟨"com/example/firm_warden/firmwarden/policy/Effect", "opposite", "()Lcom/example/firm_warden/firmwarden/policy/Effect;"⟩ : MethodName)) hown (mvT hZ (hw _ (List.mem_of_getElem? (i := 5) rfl))) (mvT hZ (hw _ (List.mem_of_getElem? (i := 6) rfl))) (notFace_of_selects (args := #[]) (mvT hZ (hw _ (List.mem_of_getElem? (i := 8) rfl)))) (mvT hZ (hw _ (List.mem_of_getElem? (i := 8) rfl))) (mvT hZ (hw _ (List.mem_of_getElem? (i := 7) rfl))) (by decide) (backOf (W := 0) (rm1_1 l Z a0 hw w_DENY w_PERMIT h0 n0 O0 P2 P5 P6) hZ (hw _ (List.mem_of_getElem? (i := 9) rfl)) (hw _ (List.mem_of_getElem? (i := 1) rfl)) (by decide) (by decide)) q4a q4c (g := (mkF m 60 #[.val (.int p1), .val (.int (0 : Int32)), .val (.ref w_PERMIT), .val (.ref w_DENY), .val (.ref w_DENY)] [(.ref w_DENY)])) rfl (by rw [hml]; rfl) (Steps.refl _) (argsL := []) (rest := []) (lenOf pd_2 rfl) rfl (by show 2 * 0 + _ ≤ _; exact Nat.le_of_eq rfl) (hb hby at_60) (fun _ _ => ⟨rfl, e3, (by decide : 0 + 0 ≤ _), (by decide : 0 + 0 ≤ _)⟩)
  dsimp only [Pt.U, Pt.locs, Pt.cells, Pt.slots] at X4 l4 y4 z4 st4 hQ4
  subst l4 y4 z4
  obtain ⟨rfl, N4q, e4⟩ := hQ4
  have N4 := Fr.app N3 N4q
  obtain ⟨fs, hr, hrun, hended, hW, hsame⟩ := X4.leave (v := some (.int (1 : Int32))) (fun h => by rw [Bd.returns] at h; cases h)
  refine ⟨_, _, pre0 _ ?_, hrun, hended, _, _, rfl, ?_, ⟨_, rfl⟩, hW, hsame.mono (by decide) (by decide)⟩
  · show Steps p.tables e below (s₁.setTop (mkF m 0 #[.val (.int p1), .unset, .unset, .unset, .unset] [])) _
    refine XS.iloadN X0.here hx rfl (hb hby at_0) rfl ?_
    show Steps p.tables e below (s₁.setTop (mkF m 1 #[.val (.int p1), .unset, .unset, .unset, .unset] [(.int p1)])) _
    refine XS.iconst X0.here hx rfl (hb hby at_1) ?_
    show Steps p.tables e below (s₁.setTop (mkF m 2 #[.val (.int p1), .unset, .unset, .unset, .unset] [(.int (1 : Int32)), (.int p1)])) _
    refine XS.iand X0.here hx rfl (hb hby at_2) rfl ?_
    show Steps p.tables e below (s₁.setTop (mkF m 3 #[.val (.int p1), .unset, .unset, .unset, .unset] [(.int (p1 &&& (1 : Int32)))])) _
    rw [P1]
    show Steps p.tables e below (s₁.setTop (mkF m 3 #[.val (.int p1), .unset, .unset, .unset, .unset] [(.int (0 : Int32))])) _
    refine XS.ifYes X0.here hx rfl (pc0 := 3) (pc' := 10) rfl (hb hby at_3) rfl (by decide) (by decide) (by decide) ?_
    show Steps p.tables e below (s₁.setTop (mkF m 10 #[.val (.int p1), .unset, .unset, .unset, .unset] [])) _
    refine XS.iconst X0.here hx rfl (hb hby at_10) ?_
    show Steps p.tables e below (s₁.setTop (mkF m 11 #[.val (.int p1), .unset, .unset, .unset, .unset] [(.int (0 : Int32))])) _
    refine XS.istoreN X0.here hx rfl (hb hby at_11) rfl (l' := #[.val (.int p1), .val (.int (0 : Int32)), .unset, .unset, .unset]) rfl ?_
    show Steps p.tables e below (s₁.setTop (mkF m 12 #[.val (.int p1), .val (.int (0 : Int32)), .unset, .unset, .unset] [])) _
    refine XS.iloadN X0.here hx rfl (hb hby at_12) rfl ?_
    show Steps p.tables e below (s₁.setTop (mkF m 13 #[.val (.int p1), .val (.int (0 : Int32)), .unset, .unset, .unset] [(.int (0 : Int32))])) _
    refine XS.ifYes X0.here hx rfl (pc0 := 13) (pc' := 22) rfl (hb hby at_13) rfl (by decide) (by decide) (by decide) ?_
    show Steps p.tables e below (s₁.setTop (mkF m 22 #[.val (.int p1), .val (.int (0 : Int32)), .unset, .unset, .unset] [])) _
    refine st1 _ ?_
    show Steps p.tables e below (T1.setTop (mkF m 25 #[.val (.int p1), .val (.int (0 : Int32)), .unset, .unset, .unset] [(.ref w_PERMIT)])) _
    refine XS.astoreN X1.here hx rfl (hb hby at_25) rfl rfl (l' := #[.val (.int p1), .val (.int (0 : Int32)), .val (.ref w_PERMIT), .unset, .unset]) rfl ?_
    show Steps p.tables e below (T1.setTop (mkF m 26 #[.val (.int p1), .val (.int (0 : Int32)), .val (.ref w_PERMIT), .unset, .unset] [])) _
    refine XS.iloadN X1.here hx rfl (hb hby at_26) rfl ?_
    show Steps p.tables e below (T1.setTop (mkF m 27 #[.val (.int p1), .val (.int (0 : Int32)), .val (.ref w_PERMIT), .unset, .unset] [(.int (0 : Int32))])) _
    refine XS.ifYes X1.here hx rfl (pc0 := 27) (pc' := 36) rfl (hb hby at_27) rfl (by decide) (by decide) (by decide) ?_
    show Steps p.tables e below (T1.setTop (mkF m 36 #[.val (.int p1), .val (.int (0 : Int32)), .val (.ref w_PERMIT), .unset, .unset] [])) _
    refine st2 _ ?_
    show Steps p.tables e below (T2.setTop (mkF m 39 #[.val (.int p1), .val (.int (0 : Int32)), .val (.ref w_PERMIT), .unset, .unset] [(.ref w_DENY)])) _
    refine XS.astoreN X2.here hx rfl (hb hby at_39) rfl rfl (l' := #[.val (.int p1), .val (.int (0 : Int32)), .val (.ref w_PERMIT), .val (.ref w_DENY), .unset]) rfl ?_
    show Steps p.tables e below (T2.setTop (mkF m 40 #[.val (.int p1), .val (.int (0 : Int32)), .val (.ref w_PERMIT), .val (.ref w_DENY), .unset] [])) _
    refine XS.aloadN X2.here hx rfl (hb hby at_40) rfl rfl ?_
    show Steps p.tables e below (T2.setTop (mkF m 41 #[.val (.int p1), .val (.int (0 : Int32)), .val (.ref w_PERMIT), .val (.ref w_DENY), .unset] [(.ref w_PERMIT)])) _
    refine st3.trans ?_
    show Steps p.tables e below (T3.setTop (mkF m 44 #[.val (.int p1), .val (.int (0 : Int32)), .val (.ref w_PERMIT), .val (.ref w_DENY), .unset] [(.ref w_DENY)])) _
    refine XS.astore X3.here hx rfl (hb hby at_44) rfl rfl (l' := #[.val (.int p1), .val (.int (0 : Int32)), .val (.ref w_PERMIT), .val (.ref w_DENY), .val (.ref w_DENY)]) rfl ?_
    show Steps p.tables e below (T3.setTop (mkF m 46 #[.val (.int p1), .val (.int (0 : Int32)), .val (.ref w_PERMIT), .val (.ref w_DENY), .val (.ref w_DENY)] [])) _
    refine XS.aload X3.here hx rfl (hb hby at_46) rfl rfl ?_
    show Steps p.tables e below (T3.setTop (mkF m 48 #[.val (.int p1), .val (.int (0 : Int32)), .val (.ref w_PERMIT), .val (.ref w_DENY), .val (.ref w_DENY)] [(.ref w_DENY)])) _
    refine XS.aloadN X3.here hx rfl (hb hby at_48) rfl rfl ?_
    show Steps p.tables e below (T3.setTop (mkF m 49 #[.val (.int p1), .val (.int (0 : Int32)), .val (.ref w_PERMIT), .val (.ref w_DENY), .val (.ref w_DENY)] [(.ref w_DENY), (.ref w_DENY)])) _
    refine Jvm.RoadKit.acmp (g := (mkF m 49 #[.val (.int p1), .val (.int (0 : Int32)), .val (.ref w_PERMIT), .val (.ref w_DENY), .val (.ref w_DENY)] [(.ref w_DENY), (.ref w_DENY)])) X3 hx rfl rfl rfl (pc0 := 49) (pc' := 52) (same := true) rfl (hb hby at_49) rfl (decide_eq_true rfl) (by decide) (by decide) ?_
    show Steps p.tables e below (T3.setTop (mkF m 52 #[.val (.int p1), .val (.int (0 : Int32)), .val (.ref w_PERMIT), .val (.ref w_DENY), .val (.ref w_DENY)] [])) _
    refine XS.aload X3.here hx rfl (hb hby at_52) rfl rfl ?_
    show Steps p.tables e below (T3.setTop (mkF m 54 #[.val (.int p1), .val (.int (0 : Int32)), .val (.ref w_PERMIT), .val (.ref w_DENY), .val (.ref w_DENY)] [(.ref w_DENY)])) _
    refine XS.aloadN X3.here hx rfl (hb hby at_54) rfl rfl ?_
    show Steps p.tables e below (T3.setTop (mkF m 55 #[.val (.int p1), .val (.int (0 : Int32)), .val (.ref w_PERMIT), .val (.ref w_DENY), .val (.ref w_DENY)] [(.ref w_PERMIT), (.ref w_DENY)])) _
    refine Jvm.RoadKit.acmp (g := (mkF m 55 #[.val (.int p1), .val (.int (0 : Int32)), .val (.ref w_PERMIT), .val (.ref w_DENY), .val (.ref w_DENY)] [(.ref w_PERMIT), (.ref w_DENY)])) X3 hx rfl rfl rfl (pc0 := 55) (pc' := 58) (same := false) rfl (hb hby at_55) rfl (decide_eq_false fun q => (Fld.ne P5 P6 (by decide)) (Value.ref.inj q)) (by decide) (by decide) ?_
    show Steps p.tables e below (T3.setTop (mkF m 58 #[.val (.int p1), .val (.int (0 : Int32)), .val (.ref w_PERMIT), .val (.ref w_DENY), .val (.ref w_DENY)] [])) _
    refine XS.aload X3.here hx rfl (hb hby at_58) rfl rfl ?_
    show Steps p.tables e below (T3.setTop (mkF m 60 #[.val (.int p1), .val (.int (0 : Int32)), .val (.ref w_PERMIT), .val (.ref w_DENY), .val (.ref w_DENY)] [(.ref w_DENY)])) _
    refine st4.trans ?_
    show Steps p.tables e below (T4.setTop (mkF m 63 #[.val (.int p1), .val (.int (0 : Int32)), .val (.ref w_PERMIT), .val (.ref w_DENY), .val (.ref w_DENY)] [(.ref w_PERMIT)])) _
    refine XS.aloadN X4.here hx rfl (hb hby at_63) rfl rfl ?_
    show Steps p.tables e below (T4.setTop (mkF m 64 #[.val (.int p1), .val (.int (0 : Int32)), .val (.ref w_PERMIT), .val (.ref w_DENY), .val (.ref w_DENY)] [(.ref w_PERMIT), (.ref w_PERMIT)])) _
    refine Jvm.RoadKit.acmp (g := (mkF m 64 #[.val (.int p1), .val (.int (0 : Int32)), .val (.ref w_PERMIT), .val (.ref w_DENY), .val (.ref w_DENY)] [(.ref w_PERMIT), (.ref w_PERMIT)])) X4 hx rfl rfl rfl (pc0 := 64) (pc' := 67) (same := true) rfl (hb hby at_64) rfl (decide_eq_true rfl) (by decide) (by decide) ?_
    show Steps p.tables e below (T4.setTop (mkF m 67 #[.val (.int p1), .val (.int (0 : Int32)), .val (.ref w_PERMIT), .val (.ref w_DENY), .val (.ref w_DENY)] [])) _
    refine XS.iconst X4.here hx rfl (hb hby at_67) ?_
    show Steps p.tables e below (T4.setTop (mkF m 68 #[.val (.int p1), .val (.int (0 : Int32)), .val (.ref w_PERMIT), .val (.ref w_DENY), .val (.ref w_DENY)] [(.int (1 : Int32))])) _
    refine XS.goto X4.here hx rfl (pc0 := 68) (pc' := 72) rfl (hb hby at_68) (by decide) (by decide) ?_
    show Steps p.tables e below (T4.setTop (mkF m 72 #[.val (.int p1), .val (.int (0 : Int32)), .val (.ref w_PERMIT), .val (.ref w_DENY), .val (.ref w_DENY)] [(.int (1 : Int32))])) _
    exact retN X4 hx (t := .boolean) Bd.returns (by simp) (hb hby at_72) hr
  · show own_Q1 n0 _ T4.heap _
    rw [e4]
    exact ⟨rfl, N4⟩
set_option maxRecDepth 65536 in
set_option maxHeartbeats 40000000 in
theorem law_1 (l : Launch) (Z : State) (a0 : Array Value) (hw : ∀ d ∈ tables_1, d.before a0 Z = true) (ws : List Jvm.Cond) (p1 : Int32) (w_DENY : Addr) (w_PERMIT : Addr) (h0 : Heap) (n0 : Nat) (O0 : Old Z n0 h0) (P1 : (p1 &&& (1 : Int32)) = (1 : Int32)) (P2 : Sta Z Z.heap "com/example/firm_warden/firmwarden/policy/Effect" "DENY" "Lcom/example/firm_warden/firmwarden/policy/Effect;" (.ref w_DENY)) (P3 : Sta Z Z.heap "com/example/firm_warden/firmwarden/policy/Effect" "PERMIT" "Lcom/example/firm_warden/firmwarden/policy/Effect;" (.ref w_PERMIT)) (P4 : Exa Z Z.heap w_DENY "com/example/firm_warden/firmwarden/policy/Effect") (P5 : Fld Z Z.heap w_DENY "java/lang/Enum" "ordinal" "I" (.int (1 : Int32))) (P6 : Fld Z Z.heap w_PERMIT "java/lang/Enum" "ordinal" "I" (.int (0 : Int32))) (P7 : Exa Z Z.heap w_PERMIT "com/example/firm_warden/firmwarden/policy/Effect") :
    MetFree l x (head1 (Jvm.Cond.code x code maxLocals ret :: ws) room_1) (fun a U => a = #[(.int p1)] ∧ Z.Warmed39 U.vm ∧ U.heap = h0) (fun _ _ _ _ _ => True) (fun _ U o U' => ∃ v L, o = .returned v ∧ own_Q1 n0 v U'.heap L ∧ FrameEnd U o U' L room_1.cells room_1.slots) := by
  refine MetFree.of_bodySF (plainFor_of_name pn_3) hisR ?_
  intro p e s m args below meth c s₁ Bd hml0 hP hK
  obtain ⟨rfl, hZ, hh⟩ := hP
  have hx := Bd.exec
  have hby := Bd.bytes
  have hml : c.maxLocals = 5 := hml0
  have hown : s.vm.findClass "com/example/firm_warden/firmwarden/policy/EffectOppositePinLaw" = some m.cls := findClass_of_methodNamed Bd.named
  have hnm := (name_of_methodNamed Bd.named Bd.method).1
  have X0 : Stand p l e room_1 s m #[(.int p1)] below meth c s₁ [] 0 0 := Stand.of_body Bd
  have e0 : s₁.heap = h0 := by rw [← hh, Bd.state]; rfl
  have N0 := Fr.nil n0
  have pre0 : ∀ t, Steps p.tables e below (s₁.setTop (mkF m 0 #[.val (.int p1), .unset, .unset, .unset, .unset] [])) t → Steps p.tables e below (s₁.setTop (entryFrame m #[(.int p1)] maxLocals)) t := fun t k => castTop (ef_0_I m p1) k
  obtain ⟨T1, X1, e1, st1⟩ := getS2 X0 hx hZ hown (host := "") (Or.inl (hw _ (List.mem_of_getElem? (i := 3) rfl))) Via.refl e0 (P2.ext O0.2) (g := (mkF m 16 #[.val (.int p1), .val (.int (1 : Int32)), .unset, .unset, .unset] [])) rfl (hb hby at_16)
  obtain ⟨T2, X2, e2, st2⟩ := getS2 X1 hx hZ hown (host := "") (Or.inl (hw _ (List.mem_of_getElem? (i := 0) rfl))) Via.refl e1 (P3.ext O0.2) (g := (mkF m 30 #[.val (.int p1), .val (.int (1 : Int32)), .val (.ref w_DENY), .unset, .unset] [])) rfl (hb hby at_30)
  obtain ⟨cq3, kq3, q3a, q3b, q3c⟩ := isOf hZ e2 (P4.ext O0.2)
  obtain ⟨_, _, ⟨T3, L3, k3, n3⟩, -, X3, ⟨Lc3, hQ3, l3, y3, z3⟩, st3⟩ := X2.virtualBack hx (y := (⟨"com/example/firm_warden/firmwarden/policy/Effect", "opposite", "()Lcom/example/firm_warden/firmwarden/policy/Effect;"⟩ : MethodName)) (z := (⟨"com/example/firm_warden/firmwarden/policy/Effect", "opposite", "()Lcom/example/firm_warden/firmwarden/policy/Effect;"⟩ : MethodName)) hown (mvT hZ (hw _ (List.mem_of_getElem? (i := 5) rfl))) (mvT hZ (hw _ (List.mem_of_getElem? (i := 6) rfl))) (notFace_of_selects (args := #[]) (mvT hZ (hw _ (List.mem_of_getElem? (i := 8) rfl)))) (mvT hZ (hw _ (List.mem_of_getElem? (i := 8) rfl))) (mvT hZ (hw _ (List.mem_of_getElem? (i := 7) rfl))) (by decide) (backOf (W := 0) (rm1_1 l Z a0 hw w_DENY w_PERMIT h0 n0 O0 P3 P5 P6) hZ (hw _ (List.mem_of_getElem? (i := 9) rfl)) (hw _ (List.mem_of_getElem? (i := 1) rfl)) (by decide) (by decide)) q3a q3c (g := (mkF m 41 #[.val (.int p1), .val (.int (1 : Int32)), .val (.ref w_DENY), .val (.ref w_PERMIT), .unset] [(.ref w_DENY)])) rfl (by rw [hml]; rfl) (Steps.refl _) (argsL := []) (rest := []) (lenOf pd_2 rfl) rfl (by show 2 * 0 + _ ≤ _; exact Nat.le_of_eq rfl) (hb hby at_41) (fun _ _ => ⟨rfl, e2, (by decide : 0 + 0 ≤ _), (by decide : 0 + 0 ≤ _)⟩)
  dsimp only [Pt.U, Pt.locs, Pt.cells, Pt.slots] at X3 l3 y3 z3 st3 hQ3
  subst l3 y3 z3
  obtain ⟨rfl, N3q, e3⟩ := hQ3
  have N3 := Fr.app N0 N3q
  obtain ⟨cq4, kq4, q4a, q4b, q4c⟩ := isOf hZ e3 (P7.ext O0.2)
  obtain ⟨_, _, ⟨T4, L4, k4, n4⟩, -, X4, ⟨Lc4, hQ4, l4, y4, z4⟩, st4⟩ := X3.virtualBack hx (y := (⟨"com/example/firm_warden/firmwarden/policy/Effect", "opposite", "()Lcom/example/firm_warden/firmwarden/policy/Effect;"⟩ : MethodName)) (z := (⟨"com/example/firm_warden/firmwarden/policy/Effect", "opposite", "()Lcom/example/firm_warden/firmwarden/policy/Effect;"⟩ : MethodName)) hown (mvT hZ (hw _ (List.mem_of_getElem? (i := 5) rfl))) (mvT hZ (hw _ (List.mem_of_getElem? (i := 6) rfl))) (notFace_of_selects (args := #[]) (mvT hZ (hw _ (List.mem_of_getElem? (i := 8) rfl)))) (mvT hZ (hw _ (List.mem_of_getElem? (i := 8) rfl))) (mvT hZ (hw _ (List.mem_of_getElem? (i := 7) rfl))) (by decide) (backOf (W := 0) (rm1_0 l Z a0 hw w_PERMIT w_DENY h0 n0 O0 P3 P2) hZ (hw _ (List.mem_of_getElem? (i := 9) rfl)) (hw _ (List.mem_of_getElem? (i := 1) rfl)) (by decide) (by decide)) q4a q4c (g := (mkF m 60 #[.val (.int p1), .val (.int (1 : Int32)), .val (.ref w_DENY), .val (.ref w_PERMIT), .val (.ref w_PERMIT)] [(.ref w_PERMIT)])) rfl (by rw [hml]; rfl) (Steps.refl _) (argsL := []) (rest := []) (lenOf pd_2 rfl) rfl (by show 2 * 0 + _ ≤ _; exact Nat.le_of_eq rfl) (hb hby at_60) (fun _ _ => ⟨rfl, e3, (by decide : 0 + 0 ≤ _), (by decide : 0 + 0 ≤ _)⟩)
  dsimp only [Pt.U, Pt.locs, Pt.cells, Pt.slots] at X4 l4 y4 z4 st4 hQ4
  subst l4 y4 z4
  obtain ⟨rfl, N4q, e4⟩ := hQ4
  have N4 := Fr.app N3 N4q
  obtain ⟨fs, hr, hrun, hended, hW, hsame⟩ := X4.leave (v := some (.int (1 : Int32))) (fun h => by rw [Bd.returns] at h; cases h)
  refine ⟨_, _, pre0 _ ?_, hrun, hended, _, _, rfl, ?_, ⟨_, rfl⟩, hW, hsame.mono (by decide) (by decide)⟩
  · show Steps p.tables e below (s₁.setTop (mkF m 0 #[.val (.int p1), .unset, .unset, .unset, .unset] [])) _
    refine XS.iloadN X0.here hx rfl (hb hby at_0) rfl ?_
    show Steps p.tables e below (s₁.setTop (mkF m 1 #[.val (.int p1), .unset, .unset, .unset, .unset] [(.int p1)])) _
    refine XS.iconst X0.here hx rfl (hb hby at_1) ?_
    show Steps p.tables e below (s₁.setTop (mkF m 2 #[.val (.int p1), .unset, .unset, .unset, .unset] [(.int (1 : Int32)), (.int p1)])) _
    refine XS.iand X0.here hx rfl (hb hby at_2) rfl ?_
    show Steps p.tables e below (s₁.setTop (mkF m 3 #[.val (.int p1), .unset, .unset, .unset, .unset] [(.int (p1 &&& (1 : Int32)))])) _
    rw [P1]
    show Steps p.tables e below (s₁.setTop (mkF m 3 #[.val (.int p1), .unset, .unset, .unset, .unset] [(.int (1 : Int32))])) _
    refine XS.ifNo X0.here hx rfl (hb hby at_3) rfl (by decide) ?_
    show Steps p.tables e below (s₁.setTop (mkF m 6 #[.val (.int p1), .unset, .unset, .unset, .unset] [])) _
    refine XS.iconst X0.here hx rfl (hb hby at_6) ?_
    show Steps p.tables e below (s₁.setTop (mkF m 7 #[.val (.int p1), .unset, .unset, .unset, .unset] [(.int (1 : Int32))])) _
    refine XS.goto X0.here hx rfl (pc0 := 7) (pc' := 11) rfl (hb hby at_7) (by decide) (by decide) ?_
    show Steps p.tables e below (s₁.setTop (mkF m 11 #[.val (.int p1), .unset, .unset, .unset, .unset] [(.int (1 : Int32))])) _
    refine XS.istoreN X0.here hx rfl (hb hby at_11) rfl (l' := #[.val (.int p1), .val (.int (1 : Int32)), .unset, .unset, .unset]) rfl ?_
    show Steps p.tables e below (s₁.setTop (mkF m 12 #[.val (.int p1), .val (.int (1 : Int32)), .unset, .unset, .unset] [])) _
    refine XS.iloadN X0.here hx rfl (hb hby at_12) rfl ?_
    show Steps p.tables e below (s₁.setTop (mkF m 13 #[.val (.int p1), .val (.int (1 : Int32)), .unset, .unset, .unset] [(.int (1 : Int32))])) _
    refine XS.ifNo X0.here hx rfl (hb hby at_13) rfl (by decide) ?_
    show Steps p.tables e below (s₁.setTop (mkF m 16 #[.val (.int p1), .val (.int (1 : Int32)), .unset, .unset, .unset] [])) _
    refine st1 _ ?_
    show Steps p.tables e below (T1.setTop (mkF m 19 #[.val (.int p1), .val (.int (1 : Int32)), .unset, .unset, .unset] [(.ref w_DENY)])) _
    refine XS.goto X1.here hx rfl (pc0 := 19) (pc' := 25) rfl (hb hby at_19) (by decide) (by decide) ?_
    show Steps p.tables e below (T1.setTop (mkF m 25 #[.val (.int p1), .val (.int (1 : Int32)), .unset, .unset, .unset] [(.ref w_DENY)])) _
    refine XS.astoreN X1.here hx rfl (hb hby at_25) rfl rfl (l' := #[.val (.int p1), .val (.int (1 : Int32)), .val (.ref w_DENY), .unset, .unset]) rfl ?_
    show Steps p.tables e below (T1.setTop (mkF m 26 #[.val (.int p1), .val (.int (1 : Int32)), .val (.ref w_DENY), .unset, .unset] [])) _
    refine XS.iloadN X1.here hx rfl (hb hby at_26) rfl ?_
    show Steps p.tables e below (T1.setTop (mkF m 27 #[.val (.int p1), .val (.int (1 : Int32)), .val (.ref w_DENY), .unset, .unset] [(.int (1 : Int32))])) _
    refine XS.ifNo X1.here hx rfl (hb hby at_27) rfl (by decide) ?_
    show Steps p.tables e below (T1.setTop (mkF m 30 #[.val (.int p1), .val (.int (1 : Int32)), .val (.ref w_DENY), .unset, .unset] [])) _
    refine st2 _ ?_
    show Steps p.tables e below (T2.setTop (mkF m 33 #[.val (.int p1), .val (.int (1 : Int32)), .val (.ref w_DENY), .unset, .unset] [(.ref w_PERMIT)])) _
    refine XS.goto X2.here hx rfl (pc0 := 33) (pc' := 39) rfl (hb hby at_33) (by decide) (by decide) ?_
    show Steps p.tables e below (T2.setTop (mkF m 39 #[.val (.int p1), .val (.int (1 : Int32)), .val (.ref w_DENY), .unset, .unset] [(.ref w_PERMIT)])) _
    refine XS.astoreN X2.here hx rfl (hb hby at_39) rfl rfl (l' := #[.val (.int p1), .val (.int (1 : Int32)), .val (.ref w_DENY), .val (.ref w_PERMIT), .unset]) rfl ?_
    show Steps p.tables e below (T2.setTop (mkF m 40 #[.val (.int p1), .val (.int (1 : Int32)), .val (.ref w_DENY), .val (.ref w_PERMIT), .unset] [])) _
    refine XS.aloadN X2.here hx rfl (hb hby at_40) rfl rfl ?_
    show Steps p.tables e below (T2.setTop (mkF m 41 #[.val (.int p1), .val (.int (1 : Int32)), .val (.ref w_DENY), .val (.ref w_PERMIT), .unset] [(.ref w_DENY)])) _
    refine st3.trans ?_
    show Steps p.tables e below (T3.setTop (mkF m 44 #[.val (.int p1), .val (.int (1 : Int32)), .val (.ref w_DENY), .val (.ref w_PERMIT), .unset] [(.ref w_PERMIT)])) _
    refine XS.astore X3.here hx rfl (hb hby at_44) rfl rfl (l' := #[.val (.int p1), .val (.int (1 : Int32)), .val (.ref w_DENY), .val (.ref w_PERMIT), .val (.ref w_PERMIT)]) rfl ?_
    show Steps p.tables e below (T3.setTop (mkF m 46 #[.val (.int p1), .val (.int (1 : Int32)), .val (.ref w_DENY), .val (.ref w_PERMIT), .val (.ref w_PERMIT)] [])) _
    refine XS.aload X3.here hx rfl (hb hby at_46) rfl rfl ?_
    show Steps p.tables e below (T3.setTop (mkF m 48 #[.val (.int p1), .val (.int (1 : Int32)), .val (.ref w_DENY), .val (.ref w_PERMIT), .val (.ref w_PERMIT)] [(.ref w_PERMIT)])) _
    refine XS.aloadN X3.here hx rfl (hb hby at_48) rfl rfl ?_
    show Steps p.tables e below (T3.setTop (mkF m 49 #[.val (.int p1), .val (.int (1 : Int32)), .val (.ref w_DENY), .val (.ref w_PERMIT), .val (.ref w_PERMIT)] [(.ref w_PERMIT), (.ref w_PERMIT)])) _
    refine Jvm.RoadKit.acmp (g := (mkF m 49 #[.val (.int p1), .val (.int (1 : Int32)), .val (.ref w_DENY), .val (.ref w_PERMIT), .val (.ref w_PERMIT)] [(.ref w_PERMIT), (.ref w_PERMIT)])) X3 hx rfl rfl rfl (pc0 := 49) (pc' := 52) (same := true) rfl (hb hby at_49) rfl (decide_eq_true rfl) (by decide) (by decide) ?_
    show Steps p.tables e below (T3.setTop (mkF m 52 #[.val (.int p1), .val (.int (1 : Int32)), .val (.ref w_DENY), .val (.ref w_PERMIT), .val (.ref w_PERMIT)] [])) _
    refine XS.aload X3.here hx rfl (hb hby at_52) rfl rfl ?_
    show Steps p.tables e below (T3.setTop (mkF m 54 #[.val (.int p1), .val (.int (1 : Int32)), .val (.ref w_DENY), .val (.ref w_PERMIT), .val (.ref w_PERMIT)] [(.ref w_PERMIT)])) _
    refine XS.aloadN X3.here hx rfl (hb hby at_54) rfl rfl ?_
    show Steps p.tables e below (T3.setTop (mkF m 55 #[.val (.int p1), .val (.int (1 : Int32)), .val (.ref w_DENY), .val (.ref w_PERMIT), .val (.ref w_PERMIT)] [(.ref w_DENY), (.ref w_PERMIT)])) _
    refine Jvm.RoadKit.acmp (g := (mkF m 55 #[.val (.int p1), .val (.int (1 : Int32)), .val (.ref w_DENY), .val (.ref w_PERMIT), .val (.ref w_PERMIT)] [(.ref w_DENY), (.ref w_PERMIT)])) X3 hx rfl rfl rfl (pc0 := 55) (pc' := 58) (same := false) rfl (hb hby at_55) rfl (decide_eq_false fun q => (Fld.ne P6 P5 (by decide)) (Value.ref.inj q)) (by decide) (by decide) ?_
    show Steps p.tables e below (T3.setTop (mkF m 58 #[.val (.int p1), .val (.int (1 : Int32)), .val (.ref w_DENY), .val (.ref w_PERMIT), .val (.ref w_PERMIT)] [])) _
    refine XS.aload X3.here hx rfl (hb hby at_58) rfl rfl ?_
    show Steps p.tables e below (T3.setTop (mkF m 60 #[.val (.int p1), .val (.int (1 : Int32)), .val (.ref w_DENY), .val (.ref w_PERMIT), .val (.ref w_PERMIT)] [(.ref w_PERMIT)])) _
    refine st4.trans ?_
    show Steps p.tables e below (T4.setTop (mkF m 63 #[.val (.int p1), .val (.int (1 : Int32)), .val (.ref w_DENY), .val (.ref w_PERMIT), .val (.ref w_PERMIT)] [(.ref w_DENY)])) _
    refine XS.aloadN X4.here hx rfl (hb hby at_63) rfl rfl ?_
    show Steps p.tables e below (T4.setTop (mkF m 64 #[.val (.int p1), .val (.int (1 : Int32)), .val (.ref w_DENY), .val (.ref w_PERMIT), .val (.ref w_PERMIT)] [(.ref w_DENY), (.ref w_DENY)])) _
    refine Jvm.RoadKit.acmp (g := (mkF m 64 #[.val (.int p1), .val (.int (1 : Int32)), .val (.ref w_DENY), .val (.ref w_PERMIT), .val (.ref w_PERMIT)] [(.ref w_DENY), (.ref w_DENY)])) X4 hx rfl rfl rfl (pc0 := 64) (pc' := 67) (same := true) rfl (hb hby at_64) rfl (decide_eq_true rfl) (by decide) (by decide) ?_
    show Steps p.tables e below (T4.setTop (mkF m 67 #[.val (.int p1), .val (.int (1 : Int32)), .val (.ref w_DENY), .val (.ref w_PERMIT), .val (.ref w_PERMIT)] [])) _
    refine XS.iconst X4.here hx rfl (hb hby at_67) ?_
    show Steps p.tables e below (T4.setTop (mkF m 68 #[.val (.int p1), .val (.int (1 : Int32)), .val (.ref w_DENY), .val (.ref w_PERMIT), .val (.ref w_PERMIT)] [(.int (1 : Int32))])) _
    refine XS.goto X4.here hx rfl (pc0 := 68) (pc' := 72) rfl (hb hby at_68) (by decide) (by decide) ?_
    show Steps p.tables e below (T4.setTop (mkF m 72 #[.val (.int p1), .val (.int (1 : Int32)), .val (.ref w_DENY), .val (.ref w_PERMIT), .val (.ref w_PERMIT)] [(.int (1 : Int32))])) _
    exact retN X4 hx (t := .boolean) Bd.returns (by simp) (hb hby at_72) hr
  · show own_Q1 n0 _ T4.heap _
    rw [e4]
    exact ⟨rfl, N4⟩
set_option maxRecDepth 65536 in
set_option maxHeartbeats 40000000 in
theorem comes_1 {Post : Tables → Env → Array Value → State → Outcome → State → Prop} (hpost : ∀ tb e args s v u, (limb_1_1.after args s (.returned v) u = true ∧ limb_1_2.after args s (.returned v) u = true ∧ True) → FrameEnd s (.returned v) u (Jvm.fieldLocs frame_1_writes args s ++ Jvm.arrayLocs frame_1_arrays args s ++ Jvm.staticLocs frame_1_statics s) 0 0 → Post tb e args s (.returned v) u) :
    ArmFor flags0 classFile x code maxLocals ret World_1 tables_1 room_1 Calls_1 rest_1 Pre_1 Post := by
  intro l hfl _ _ p e ha hc hk s m args below hf hA hF happ hP
  obtain ⟨hcalls, hrest, hpre⟩ := hP
  obtain ⟨-, -, -, hnamed, -, -, -, hat⟩ := (Spec.applies_iff hf).mp happ
  obtain ⟨hg, hn⟩ := and_e (Cond.before_iff.mp (show (Jvm.Cond.and given_1 narrow_1).before args s = true from hpre))
  obtain ⟨g1, g2⟩ := and_e hg
  obtain ⟨v0, rfl⟩ : ∃ v0 : Value, args = #[v0] := by
    have hs : args.size = 1 := by simpa [Cond.value, given_1] using g1
    obtain ⟨L⟩ := args
    match L, hs with
    | [v0], _ => exact ⟨v0, rfl⟩
  have hw := fun d (hd : d ∈ tables_1) => atoms_spec (ws := Jvm.Cond.code x code maxLocals ret :: tables_1) hat d (List.mem_cons_of_mem _ hd)
  have hfit : Fit s := fun {y c} hc i hi => by
    obtain ⟨ha, rfl⟩ := Array.getElem?_eq_some_iff.mp hc
    have q := List.all_eq_true.mp ((Array.all_eq_true_iff_forall_mem.mp hF) _ (Array.getElem_mem ha)) i (List.mem_range.mpr hi)
    simpa [Array.getElem?_eq_getElem hi] using q
  obtain ⟨p1, ei0⟩ := is_v g2
  obtain rfl : v0 = (.int p1) := Option.some.inj ei0
  obtain ⟨c1, c2⟩ := and_e hn
  obtain ⟨c3, c4⟩ := and_e c2
  obtain ⟨c5, c6⟩ := and_e c4
  obtain ⟨w_PERMIT, ev_w_PERMIT⟩ := exa_v c1
  have E_w_PERMIT := Exa.start ev_w_PERMIT c1
  have S_w_PERMIT := Sta.start ev_w_PERMIT (Or.inr ⟨(hw _ (List.mem_of_getElem? (i := 1) rfl)), (hw _ (List.mem_of_getElem? (i := 2) rfl))⟩)
  obtain ⟨w_DENY, ev_w_DENY⟩ := exa_v c3
  have E_w_DENY := Exa.start ev_w_DENY c3
  have S_w_DENY := Sta.start ev_w_DENY (Or.inr ⟨(hw _ (List.mem_of_getElem? (i := 1) rfl)), (hw _ (List.mem_of_getElem? (i := 4) rfl))⟩)
  have F_ordinal_w_DENY := own_fld c5 ev_w_DENY
  have F_ordinal_w_PERMIT := own_fld c6 ev_w_PERMIT
  have key : MetFree l x (head1 (Jvm.Cond.code x code maxLocals ret :: tables_1) room_1) (fun a U => a = #[(.int p1)] ∧ s.Warmed39 U.vm ∧ U.heap = s.heap) (fun _ _ _ _ _ => True) (fun _ U o U' => ∃ v L, o = .returned v ∧ own_Q1 s.heap.size v U'.heap L ∧ FrameEnd U o U' L room_1.cells room_1.slots) := by
    have hm : (p1 &&& (1 : Int32)).toInt = p1.toInt % 2 := c_mask p1 (1 : Int32) 1 (by decide) (by decide)
    have hcs : (p1 &&& (1 : Int32)) = (0 : Int32) ∨ (p1 &&& (1 : Int32)) = (1 : Int32) := by
      have z0 : (0 : Int32).toInt = 0 := rfl
      have z1 : (1 : Int32).toInt = 1 := rfl
      simp only [← Int32.toInt_inj, z0, z1]
      omega
    rcases hcs with h | h
    · exact law_0 l s _ hw tables_1 p1 w_PERMIT w_DENY s.heap s.heap.size (Old.start s) h S_w_PERMIT S_w_DENY E_w_PERMIT F_ordinal_w_DENY F_ordinal_w_PERMIT E_w_DENY
    · exact law_1 l s _ hw tables_1 p1 w_DENY w_PERMIT s.heap s.heap.size (Old.start s) h S_w_DENY S_w_PERMIT E_w_DENY F_ordinal_w_DENY F_ordinal_w_PERMIT E_w_PERMIT
  obtain ⟨n, o, h1, h2, h3, _, L, rfl, ⟨rfl, N⟩, hq⟩ := key p e ha hc hk s m _ below hf ((Spec.applies_iff_loose hf).mp happ).1 ⟨rfl, State.Warmed39.refl s, rfl⟩ trivial
  refine ⟨n, _, h1, h2, h3, hpost _ _ _ _ _ _ ⟨Cond.after_iff.mpr rfl, Cond.after_iff.mpr (eq_i res_at (Term.int_eval (1)) rfl), trivial⟩ ⟨hq.1, hq.2.1, (hq.2.2.sift fun y hy => Or.inr (N y hy)).mono (by decide) (by decide)⟩⟩
theorem main_1_1 : Claimed_1_1 := comes_1 fun _ _ _ _ _ _ h hF => ⟨h.1, hF⟩
theorem main_1_2 : Claimed_1_2 := comes_1 fun _ _ _ _ _ _ h hF => ⟨h.2.1, hF⟩
end Jvm.Pilot.@@N@@
namespace Jvm.Pilot.@@N@@
open Jvm Jvm.ClassFile Sem Op Lib Jvm.Free Jvm.Stand Jvm.Pilot.@@N@@.Jvm.D
/-! MADE BY PROGRAM (witnessworld.py) out of the Statement's table words and the real class files: 10 classes; the members and pool entries that the words name. The judged class is class 1, her method 1. -/
namespace start1
open Jvm.ClassFile
def u (s : String) : CpInfo := .utf8 (stringToUtf16 s)
/-- a pool by its gaps: so many unusable entries, then the entry; so many at the end -/
def gap : Nat → List CpInfo → List CpInfo
  | 0, r => r
  | n + 1, r => .unusable :: gap n r
def poolList (es : List (Nat × CpInfo)) (last : Nat) : List CpInfo := es.foldr (fun e r => gap e.1 (e.2 :: r)) (gap last [])
def pool (es : List (Nat × CpInfo)) (last : Nat) : Array CpInfo := ⟨poolList es last⟩
def fileOf (pool : Array CpInfo) (this : Nat) (attrs : Array Attribute := #[]) (ms : Array MethodInfo := #[]) (fl : Nat := 33) (sup : Nat := 0) (ifs : Array Nat := #[]) (fds : Array FieldInfo := #[]) : ClassFile where
  minorVersion := 0
  majorVersion := 65
  constantPool := pool
  accessFlags := fl
  thisClass := this
  superClass := sup
  interfaces := ifs
  fields := fds
  methods := ms
  attributes := attrs
def plain (name : String) (sup : Option ClassId) : Class where
  name := name
  kind := .ordinary
  loader := none
  accessFlags := 33
  super := sup
  interfaces := #[]
  cf := none
  fields := #[]
  methods := #[]
  instanceTypes := #[]
  staticTypes := #[]
  resolved := #[]
  callSites := []
  init := .initialized
  statics := none
  mirror := none

def pool0 : Array CpInfo := pool [(5, u "<init>"), (0, u "()V"), (1, .class_ 10), (1, u "java/lang/Object")] 113

def k0m0 : Method := { name := "<init>", desc := "()V", sig := { parameters := [], returnType := none }, accessFlags := 1, code := none }
/-- java/lang/Object -/
def k0 : Class := { plain "java/lang/Object" none with
  accessFlags := 33
  interfaces := #[]
  cf := some (fileOf pool0 8 #[] #[{ accessFlags := 1, nameIndex := 5, descriptorIndex := 6, attributes := #[] }] 33 0 #[] #[])
  fields := #[]
  methods := #[k0m0]
  instanceTypes := #[]
  staticTypes := #[]
  resolved := Array.replicate 124 none
  statics := none }

def pool1 : Array CpInfo := pool [(2, .class_ 4), (1, u "java/lang/Object"), (0, u "<init>"), (0, u "()V"), (0, .fieldref 8 9), (0, .class_ 10), (0, .nameAndType 11 12), (0, u "com/example/firm_warden/firmwarden/policy/Effect"), (0, u "DENY"), (0, u "Lcom/example/firm_warden/firmwarden/policy/Effect;"), (0, .fieldref 8 14), (0, .nameAndType 15 12), (0, u "PERMIT"), (0, .methodref 8 17), (0, .nameAndType 18 19), (0, u "opposite"), (0, u "()Lcom/example/firm_warden/firmwarden/policy/Effect;"), (0, .class_ 21), (0, u "com/example/firm_warden/firmwarden/policy/EffectOppositePinLaw"), (2, u "law"), (0, u "(I)Z")] 3

def k1m0 : Method := { name := "<init>", desc := "()V", sig := { parameters := [], returnType := none }, accessFlags := 2, code := none }
def k1c1 : Code := { maxStack := 2, maxLocals := 5, code := code, exceptionTable := #[], attributes := #[] }
def k1m1 : Method := { name := "law", desc := "(I)Z", sig := { parameters := [.int], returnType := some .boolean }, accessFlags := 9, code := some k1c1 }
/-- com/example/firm_warden/firmwarden/policy/EffectOppositePinLaw -/
def k1 : Class := { plain "com/example/firm_warden/firmwarden/policy/EffectOppositePinLaw" (some 0) with
  accessFlags := 49
  interfaces := #[]
  cf := some (fileOf pool1 20 #[] #[{ accessFlags := 2, nameIndex := 5, descriptorIndex := 6, attributes := #[] }, { accessFlags := 9, nameIndex := 24, descriptorIndex := 25, attributes := #[] }] 49 2 #[] #[])
  fields := #[]
  methods := #[k1m0, k1m1]
  instanceTypes := #[]
  staticTypes := #[]
  resolved := Array.replicate 29 none
  statics := none }

def pool2 : Array CpInfo := pool [(1, .class_ 2), (0, u "java/lang/constant/Constable"), (0, .class_ 4), (0, u "java/lang/Object")] 6

/-- java/lang/constant/Constable -/
def k2 : Class := { plain "java/lang/constant/Constable" (some 0) with
  accessFlags := 1537
  interfaces := #[]
  cf := some (fileOf pool2 1 #[] #[] 1537 3 #[] #[])
  fields := #[]
  methods := #[]
  instanceTypes := #[]
  staticTypes := #[]
  resolved := Array.replicate 11 none
  statics := none }

def pool3 : Array CpInfo := pool [(1, .class_ 2), (0, u "java/lang/Comparable"), (0, .class_ 4), (0, u "java/lang/Object")] 7

/-- java/lang/Comparable -/
def k3 : Class := { plain "java/lang/Comparable" (some 0) with
  accessFlags := 1537
  interfaces := #[]
  cf := some (fileOf pool3 1 #[] #[] 1537 3 #[] #[])
  fields := #[]
  methods := #[]
  instanceTypes := #[]
  staticTypes := #[]
  resolved := Array.replicate 12 none
  statics := none }

def pool4 : Array CpInfo := pool [(1, .class_ 2), (0, u "java/io/Serializable"), (0, .class_ 4), (0, u "java/lang/Object")] 2

/-- java/io/Serializable -/
def k4 : Class := { plain "java/io/Serializable" (some 0) with
  accessFlags := 1537
  interfaces := #[]
  cf := some (fileOf pool4 1 #[] #[] 1537 3 #[] #[])
  fields := #[]
  methods := #[]
  instanceTypes := #[]
  staticTypes := #[]
  resolved := Array.replicate 7 none
  statics := none }

def pool5 : Array CpInfo := pool [(2, .class_ 4), (1, u "java/lang/Enum"), (0, u "name"), (0, u "Ljava/lang/String;"), (2, u "ordinal"), (0, u "I"), (1, .class_ 14), (1, u "java/lang/Object"), (4, u "hash"), (86, .class_ 108), (1, u "java/lang/Enum$EnumDesc"), (2, .class_ 112), (0, u "java/lang/constant/Constable"), (0, .class_ 114), (0, u "java/lang/Comparable"), (0, .class_ 116), (0, u "java/io/Serializable")] 87

/-- java/lang/Enum -/
def k5 : Class := { plain "java/lang/Enum" (some 0) with
  accessFlags := 1057
  interfaces := #[2, 3, 4]
  cf := some (fileOf pool5 2 #[.nestMembers #[106]] #[] 1057 12 #[111, 113, 115] #[{ accessFlags := 18, nameIndex := 5, descriptorIndex := 6, attributes := #[] }, { accessFlags := 18, nameIndex := 9, descriptorIndex := 10, attributes := #[] }, { accessFlags := 2, nameIndex := 19, descriptorIndex := 10, attributes := #[] }])
  fields := #[{ name := "name", type := (.object "java/lang/String"), accessFlags := 18, slot := 0, constantValue := 0 }, { name := "ordinal", type := .int, accessFlags := 18, slot := 1, constantValue := 0 }, { name := "hash", type := .int, accessFlags := 2, slot := 2, constantValue := 0 }]
  methods := #[]
  instanceTypes := #[(.object "java/lang/String"), .int, .int]
  staticTypes := #[]
  resolved := Array.replicate 204 none
  statics := none }

def pool6 : Array CpInfo := pool [(1, .class_ 2), (0, u "com/example/firm_warden/firmwarden/policy/Effect"), (0, .fieldref 1 4), (0, .nameAndType 5 6), (0, u "PERMIT"), (0, u "Lcom/example/firm_warden/firmwarden/policy/Effect;"), (0, .fieldref 1 8), (0, .nameAndType 9 6), (0, u "DENY"), (2, u "$VALUES"), (0, u "[Lcom/example/firm_warden/firmwarden/policy/Effect;"), (6, .class_ 22), (1, u "java/lang/Enum"), (8, u "verdict"), (0, u "Lcom/example/firm_warden/firmwarden/policy/Verdict;"), (2, u "indeterminate"), (1, .class_ 39), (1, u "com/example/firm_warden/firmwarden/policy/Effect$1"), (48, u "opposite"), (0, u "()Lcom/example/firm_warden/firmwarden/policy/Effect;")] 7

def k6c0 : Code := { maxStack := 2, maxLocals := 1, code := prog_60_method_7_code, exceptionTable := #[], attributes := #[] }
def k6m0 : Method := { name := "opposite", desc := "()Lcom/example/firm_warden/firmwarden/policy/Effect;", sig := { parameters := [], returnType := some (.object "com/example/firm_warden/firmwarden/policy/Effect") }, accessFlags := 0, code := some k6c0 }
/-- com/example/firm_warden/firmwarden/policy/Effect -/
def k6 : Class := { plain "com/example/firm_warden/firmwarden/policy/Effect" (some 5) with
  accessFlags := 16433
  interfaces := #[]
  cf := some (fileOf pool6 1 #[.nestMembers #[37]] #[{ accessFlags := 0, nameIndex := 88, descriptorIndex := 89, attributes := #[] }] 16433 20 #[] #[{ accessFlags := 16409, nameIndex := 5, descriptorIndex := 6, attributes := #[] }, { accessFlags := 16409, nameIndex := 9, descriptorIndex := 6, attributes := #[] }, { accessFlags := 18, nameIndex := 31, descriptorIndex := 32, attributes := #[] }, { accessFlags := 18, nameIndex := 35, descriptorIndex := 32, attributes := #[] }, { accessFlags := 4122, nameIndex := 12, descriptorIndex := 13, attributes := #[] }])
  fields := #[{ name := "PERMIT", type := (.object "com/example/firm_warden/firmwarden/policy/Effect"), accessFlags := 16409, slot := 0, constantValue := 0 }, { name := "DENY", type := (.object "com/example/firm_warden/firmwarden/policy/Effect"), accessFlags := 16409, slot := 1, constantValue := 0 }, { name := "verdict", type := (.object "com/example/firm_warden/firmwarden/policy/Verdict"), accessFlags := 18, slot := 3, constantValue := 0 }, { name := "indeterminate", type := (.object "com/example/firm_warden/firmwarden/policy/Verdict"), accessFlags := 18, slot := 4, constantValue := 0 }, { name := "$VALUES", type := (.array (.object "com/example/firm_warden/firmwarden/policy/Effect")), accessFlags := 4122, slot := 2, constantValue := 0 }]
  methods := #[k6m0]
  instanceTypes := #[(.object "java/lang/String"), .int, .int, (.object "com/example/firm_warden/firmwarden/policy/Verdict"), (.object "com/example/firm_warden/firmwarden/policy/Verdict")]
  staticTypes := #[(.object "com/example/firm_warden/firmwarden/policy/Effect"), (.object "com/example/firm_warden/firmwarden/policy/Effect"), (.array (.object "com/example/firm_warden/firmwarden/policy/Effect"))]
  resolved := Array.replicate 97 none
  statics := some 0 }

def pool7 : Array CpInfo := pool [(1, u "java/lang/Cloneable"), (0, .class_ 1), (0, u "java/lang/Object"), (0, .class_ 3)] 3

/-- java/lang/Cloneable -/
def k7 : Class := { plain "java/lang/Cloneable" (some 0) with
  accessFlags := 1537
  interfaces := #[]
  cf := some (fileOf pool7 2 #[] #[] 1537 4 #[] #[])
  fields := #[]
  methods := #[]
  instanceTypes := #[]
  staticTypes := #[]
  resolved := Array.replicate 8 none
  statics := none }

/-- the primitive byte -/
def k8 : Class := { plain "byte" none with kind := .primitive 'B', accessFlags := 0x411 }
/-- [B -/
def k9 : Class := { plain "[B" (some 0) with kind := .array 8 .byte, interfaces := #[7, 4], accessFlags := 1041 }

def heap : Heap := #[{ cls := 6, slots := #[.ref 1, .ref 2, .null], vm := .statics 6 },
  { cls := 6, slots := #[.null, .int 0, .int 0, .null, .null], vm := .none },
  { cls := 6, slots := #[.null, .int 1, .int 0, .null, .null], vm := .none }]
def classes : Array Class := #[k0, k1, k2, k3, k4, k5, k6, k7, k8, k9]
def interned : List (Array UInt16 × Addr) := []
def slotsUsed : Nat := 13
def theMethod : MethodId := ⟨1, 1⟩
def args0 : Array Value := #[.int 5]
def aboutOver (below : List Frame) : State where
  vm := { classes := classes, interned := interned.toArray }
  heap := heap
  slotsUsed := slotsUsed
  threads := #[{ frames := .invoking theMethod args0 :: below }]
def below0 : List Frame := [.native { method := ⟨0, 0⟩, args := #[] }]
def about1 : State := aboutOver below0
def p0 : Program := .bare "" "" ""
def e0 : Env := launch0.env 0 0 0
theorem w_frames : about1.frames = Frame.invoking theMethod args0 :: below0 := rfl
set_option maxRecDepth 65536 in
theorem w_args : argsFit about1.vm theMethod args0 = true := by decide +kernel
set_option maxRecDepth 65536 in
theorem w_heap : heapFits about1 = true := by decide +kernel
set_option maxRecDepth 65536 in
theorem w_runnable : about1.curStatus? = some .runnable := by decide +kernel
set_option maxRecDepth 65536 in
theorem w_alone : about1.alone = true := by decide +kernel
set_option maxRecDepth 65536 in
theorem w_named : about1.methodNamed? x = some theMethod := by decide +kernel
set_option maxRecDepth 65536 in
theorem w_hears : about1.hears theMethod below0 = true := by decide +kernel
set_option maxRecDepth 65536 in
theorem w_ripe : about1.ripe theMethod args0 below0 = true := by decide +kernel
theorem w_running : about1.status = .running := rfl
set_option maxRecDepth 65536 in
theorem w_room : about1.hasRoom e0.platform room_1 = true :=
  launch0.hasRoom_least _ room_1 (by decide +kernel) (by decide +kernel) (by decide +kernel) (by decide +kernel) (by decide +kernel) (by decide +kernel)
theorem allAtoms_all (ts : List Jvm.Cond) (a : Array Jvm.Value) (st : Jvm.State) : (allAtoms ts).before a st = ts.all (fun c => c.before a st) := by
  induction ts with
  | nil => rfl
  | cons c t ih =>
    show (Jvm.Cond.and c (allAtoms t)).before a st = _
    rw [Jvm.Cond.before_and, ih, List.all_cons]
def words1 : List Jvm.Cond := Jvm.Cond.code x code maxLocals ret :: tables_1
/-- a 'code' word, met by the world's own term for the bytes: nothing is compared byte by byte -/
theorem code_word {y : MethodName} {bytes : ByteArray} {mx : Nat} {rt : Option FieldType} {a : Array Value} {s : State} {m : MethodId} {meth : Method} {c : Code} (h1 : s.methodNamed? y = some m) (h2 : s.vm.method? m = some meth) (h3 : meth.code = some c) (h4 : c.code = bytes)
    (h5 : (c.maxLocals == mx && c.exceptionTable.isEmpty && decide (c.maxStack ≤ mostOperands) && decide (meth.sig.returnType = rt) && !meth.locks && decide (parseMethodDescriptor y.desc = some meth.sig)) = true) : (Jvm.Cond.code y bytes mx rt).before a s = true := by
  simp only [Bool.and_eq_true, beq_iff_eq, Bool.not_eq_true', decide_eq_true_eq] at h5
  obtain ⟨⟨⟨⟨⟨g1, g2⟩, g3⟩, g4⟩, g5⟩, g6⟩ := h5
  simp [Cond.before, Cond.holds, Cond.value, h1, h2, h3, h4, g1, g2, g3, g4, g5, g6]
def isCode : Jvm.Cond → Bool
  | .code _ _ _ _ => true
  | _ => false
theorem all_split {L : List Jvm.Cond} {P : Jvm.Cond → Bool} (h1 : L.all (fun c => isCode c || P c) = true) (h2 : ∀ c ∈ L.filter isCode, P c = true) : L.all P = true := by
  refine List.all_eq_true.mpr fun c hc => ?_
  have h := List.all_eq_true.mp h1 c hc
  rcases Bool.eq_false_or_eq_true (isCode c) with hi | hi
  · exact h2 c (List.mem_filter.mpr ⟨hc, hi⟩)
  · simpa [hi] using h
set_option maxRecDepth 65536 in
theorem w_c0 : (Jvm.Cond.code x code maxLocals ret).before args0 about1 = true := code_word (m := ⟨1, 1⟩) (meth := k1m1) (c := k1c1) (by decide +kernel) rfl rfl rfl (by decide +kernel)
set_option maxRecDepth 65536 in
theorem w_c1 : (Jvm.Cond.code ({ cls := "com/example/firm_warden/firmwarden/policy/Effect", name := "opposite", desc := "()Lcom/example/firm_warden/firmwarden/policy/Effect;" } : Jvm.MethodName) prog_60_method_7_code (1 : Nat) (Option.some (Jvm.ClassFile.FieldType.object "com/example/firm_warden/firmwarden/policy/Effect"))).before args0 about1 = true := code_word (m := ⟨6, 0⟩) (meth := k6m0) (c := k6c0) (by decide +kernel) rfl rfl rfl (by decide +kernel)
def codes1 : List Jvm.Cond := [Jvm.Cond.code x code maxLocals ret, Jvm.Cond.code ({ cls := "com/example/firm_warden/firmwarden/policy/Effect", name := "opposite", desc := "()Lcom/example/firm_warden/firmwarden/policy/Effect;" } : Jvm.MethodName) prog_60_method_7_code (1 : Nat) (Option.some (Jvm.ClassFile.FieldType.object "com/example/firm_warden/firmwarden/policy/Effect"))]
set_option maxRecDepth 65536 in
theorem codes_eq : words1.filter isCode = codes1 := rfl
theorem w_codes : ∀ c ∈ words1.filter isCode, c.before args0 about1 = true := by
  rw [codes_eq]
  intro c hc
  simp only [codes1, List.mem_cons, List.not_mem_nil, or_false] at hc
  rcases hc with rfl | rfl
  · exact w_c0
  · exact w_c1
set_option maxRecDepth 65536 in
theorem w_t1 : words1.all (fun c => isCode c || c.before args0 about1) = true := by decide +kernel
theorem w_tables : (allAtoms (Jvm.Cond.code x code maxLocals ret :: tables_1)).before args0 about1 = true := by
  rw [allAtoms_all]
  show words1.all (fun c => c.before args0 about1) = true
  refine all_split ?_ w_codes
  rw [w_t1]
set_option maxRecDepth 65536 in
theorem w_case : (Jvm.Cond.and given_1 narrow_1).before args0 about1 = true := by decide +kernel
theorem w_applies : (headSpec (Jvm.Cond.code x code maxLocals ret :: tables_1) room_1).applies x e0.platform about1 = true :=
  (Spec.applies_iff w_frames).mpr ⟨w_running, w_runnable, w_alone, w_named, w_hears, w_ripe, w_room, w_tables⟩
theorem atStart : AtStart classFile x code maxLocals ret World_1 tables_1 room_1 Calls_1 rest_1 Pre_1 launch0 p0 e0 about1 theMethod args0 below0 :=
  ⟨lists_1, trivial, launch0.admits_env _ _ _, launch0.least_env, fairChoices_fair.cas, fairChoices_fair.clock, w_frames, w_args, w_heap, w_applies, trivial, trivial, w_case⟩
end start1
theorem witness_1 : WitnessClaimed_1 := ⟨start1.p0, start1.e0, start1.about1, start1.theMethod, start1.args0, start1.below0, start1.atStart⟩
end Jvm.Pilot.@@N@@
