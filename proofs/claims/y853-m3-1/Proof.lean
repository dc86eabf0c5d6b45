import JvmDerived
import JvmDerived.Pilot.@@N@@Statement
import JvmDerived.Pilot.@@N@@Code
set_option linter.unusedVariables false
set_option linter.unusedSimpArgs false
namespace Jvm.RoadKit
open Sem ClassFile Op Lib Jvm.Stand Jvm.Free Jvm.LawKit
section New
variable {p : Program} {l : Launch} {e : Env} {R : Room} {s : State} {m : MethodId} {args : Array Value} {below : List Frame} {meth : Method} {c : Code} {T : State} {locs : List Loc} {cells slots : Nat}
theorem retI (X : Stand p l e R s m args below meth c T locs cells slots) (hx : p.tables.exec = Jvm.exec) {pc : Nat} {Ls : Array Slot} {z : Int32} {rest : List Value} (hret : meth.sig.returnType = some .int) (hd : decode c.code pc = .ok (.ireturn, 1)) {fs : List Frame}
    (hl : ∀ (f : JFrame) (acts : List Action), f.method = m → f.locked = none → f.entered = [] → (doReturn e (T.setTop f) acts (some (.int z))).1 = T.setFrames fs) : Steps p.tables e below (T.setTop (mkF m pc Ls (.int z :: rest))) (T.setFrames fs) :=
  retOut X hx hret rfl (Or.inl ⟨rfl, Or.inl rfl, z, rfl⟩) hd hl
theorem retL (X : Stand p l e R s m args below meth c T locs cells slots) (hx : p.tables.exec = Jvm.exec) {pc : Nat} {Ls : Array Slot} {z : Int64} {rest : List Value} (hret : meth.sig.returnType = some .long) (hd : decode c.code pc = .ok (.lreturn, 1)) {fs : List Frame}
    (hl : ∀ (f : JFrame) (acts : List Action), f.method = m → f.locked = none → f.entered = [] → (doReturn e (T.setTop f) acts (some (.long z))).1 = T.setFrames fs) : Steps p.tables e below (T.setTop (mkF m pc Ls (.long z :: rest))) (T.setFrames fs) :=
  retOut X hx hret rfl (Or.inr (Or.inl ⟨rfl, rfl, z, rfl⟩)) hd hl
theorem retA (X : Stand p l e R s m args below meth c T locs cells slots) (hx : p.tables.exec = Jvm.exec) {pc : Nat} {Ls : Array Slot} {t : FieldType} {w : Value} {rest : List Value} (hret : meth.sig.returnType = some t) (ht : t.isReference = true) (hw : w.isRef = true) (hn : narrow t w = w) (hd : decode c.code pc = .ok (.areturn, 1)) {fs : List Frame}
    (hl : ∀ (f : JFrame) (acts : List Action), f.method = m → f.locked = none → f.entered = [] → (doReturn e (T.setTop f) acts (some w)).1 = T.setFrames fs) : Steps p.tables e below (T.setTop (mkF m pc Ls (w :: rest))) (T.setFrames fs) :=
  retOut X hx hret hn (Or.inr (Or.inr (Or.inr (Or.inr ⟨rfl, ht, hw⟩)))) hd hl
end New
theorem own_fld {args : Array Value} {s : State} {t : Term} {C n d : String} {k : Int32} {w : Addr} (h : (Cond.eq (Term.field t C n d) (Term.int k)).value args s none s [] = some true) (ev : t.eval args s none [] s = some (.ref w)) : Fld s s.heap w C n d (.int k) := by
  have e1 : (Term.field t C n d).eval args s none [] s = s.fieldOf? w C n d := fld_at ev
  have e2 : (Term.int k).eval args s none [] s = some (.int k) := rfl
  obtain ⟨x, y, ex, ey, k1, k2⟩ := cmp_v (Or.inl h)
  cases e2.symm.trans ey
  obtain ⟨z, rfl⟩ := k2
  have q : z = k := gotT (P := z = k) (Cond.eq_ints ex e2) h
  subst q
  exact Fld.start (e1.symm.trans ex)
end Jvm.RoadKit
namespace Jvm.Pilot.@@N@@
open Jvm Jvm.ClassFile Sem Op Lib Jvm.Free Jvm.Stand Jvm.LawKit Jvm.RoadKit Bundle Jvm.Pilot.@@N@@.Jvm.D
def own_QP (r : Option Value) (n0 : Nat) (h0 : Heap) (v : Option Value) (h : Heap) (L : List Loc) : Prop := v = r ∧ Fr n0 L ∧ h = h0
def own_Q1 (n0 : Nat) (v : Option Value) (h : Heap) (L : List Loc) : Prop := v = some (.int (1 : Int32)) ∧ Fr n0 L

theorem d1_0 : decode prog_15_method_4_code 0 = .ok (.iload_n 0, 1) := by decide +kernel
theorem d1_1 : decode prog_15_method_4_code 1 = .ok (.bipush 100, 2) := by decide +kernel
theorem d1_3 : decode prog_15_method_4_code 3 = .ok (.idiv, 1) := by decide +kernel
theorem d1_4 : decode prog_15_method_4_code 4 = .ok (.tableswitch 66 1 5 #[36, 42, 48, 54, 60], 36) := by decide +kernel
theorem d1_40 : decode prog_15_method_4_code 40 = .ok (.getstatic 3, 3) := by decide +kernel
theorem d1_43 : decode prog_15_method_4_code 43 = .ok (.goto 41, 3) := by decide +kernel
theorem d1_46 : decode prog_15_method_4_code 46 = .ok (.getstatic 7, 3) := by decide +kernel
theorem d1_49 : decode prog_15_method_4_code 49 = .ok (.goto 35, 3) := by decide +kernel
theorem d1_52 : decode prog_15_method_4_code 52 = .ok (.getstatic 10, 3) := by decide +kernel
theorem d1_55 : decode prog_15_method_4_code 55 = .ok (.goto 29, 3) := by decide +kernel
theorem d1_58 : decode prog_15_method_4_code 58 = .ok (.getstatic 13, 3) := by decide +kernel
theorem d1_61 : decode prog_15_method_4_code 61 = .ok (.goto 23, 3) := by decide +kernel
theorem d1_64 : decode prog_15_method_4_code 64 = .ok (.getstatic 16, 3) := by decide +kernel
theorem d1_67 : decode prog_15_method_4_code 67 = .ok (.goto 17, 3) := by decide +kernel
theorem d1_84 : decode prog_15_method_4_code 84 = .ok (.areturn, 1) := by decide +kernel
theorem pn_0 : plainName "com/example/calm_current/calmcurrent/http/HttpStatus$Series" = true := by first | (simp [plainName, overriddenIn]; done) | decide +kernel
theorem ef_1_I (m : MethodId) (x0 : Int32) : entryFrame m #[(.int x0)] 1 = mkF m 0 #[.val (.int x0)] [] := by first | (simp [entryFrame, mkF, argsToLocals, Value.category]; done) | rfl
theorem pd_2 : parseMethodDescriptor "(I)Lcom/example/calm_current/calmcurrent/http/HttpStatus$Series;" = some ⟨[.int], some (.object "com/example/calm_current/calmcurrent/http/HttpStatus$Series")⟩ := by decide +kernel
theorem pn_3 : plainName "com/example/calm_current/calmcurrent/http/SeriesOfPinLaw" = true := by first | (simp [plainName, overriddenIn]; done) | decide +kernel
theorem ef_0_I (m : MethodId) (x0 : Int32) : entryFrame m #[(.int x0)] maxLocals = mkF m 0 #[.val (.int x0), .unset, .unset, .unset] [] := by first | (simp [entryFrame, mkF, argsToLocals, Value.category, maxLocals]; done) | rfl
set_option maxRecDepth 65536 in
set_option maxHeartbeats 40000000 in
theorem rm1_0 (l : Launch) (Z : State) (a0 : Array Value) (hw : ∀ d ∈ tables_1, d.before a0 Z = true) (p1 : Int32) (w_INFORMATIONAL : Addr) (h0 : Heap) (n0 : Nat) (O0 : Old Z n0 h0) (P1 : (p1 / (100 : Int32)) = (1 : Int32)) (P2 : Sta Z Z.heap "com/example/calm_current/calmcurrent/http/HttpStatus$Series" "INFORMATIONAL" "Lcom/example/calm_current/calmcurrent/http/HttpStatus$Series;" (.ref w_INFORMATIONAL)) :
    MetFree l (⟨"com/example/calm_current/calmcurrent/http/HttpStatus$Series", "of", "(I)Lcom/example/calm_current/calmcurrent/http/HttpStatus$Series;"⟩ : MethodName) (head1 [Jvm.Cond.code (⟨"com/example/calm_current/calmcurrent/http/HttpStatus$Series", "of", "(I)Lcom/example/calm_current/calmcurrent/http/HttpStatus$Series;"⟩ : MethodName) prog_15_method_4_code 1 (some (.object "com/example/calm_current/calmcurrent/http/HttpStatus$Series"))] ({ frames := 0, cells := 0, slots := 0, locals := 0 } : Room)) (fun a U => a = #[(.int p1)] ∧ Z.Warmed39 U.vm ∧ U.heap = h0) (fun _ _ _ _ _ => True) (fun _ U o U' => ∃ v L, o = .returned v ∧ own_QP (some (.ref w_INFORMATIONAL)) n0 h0 v U'.heap L ∧ FrameEnd U o U' L ({ frames := 0, cells := 0, slots := 0, locals := 0 } : Room).cells ({ frames := 0, cells := 0, slots := 0, locals := 0 } : Room).slots) := by
  refine MetFree.of_bodySF (plainFor_of_name pn_0) hisR ?_
  intro p e s m args below meth c s₁ Bd hml0 hP hK
  obtain ⟨rfl, hZ, hh⟩ := hP
  have hx := Bd.exec
  have hby := Bd.bytes
  have hml : c.maxLocals = 1 := hml0
  have hown : s.vm.findClass "com/example/calm_current/calmcurrent/http/HttpStatus$Series" = some m.cls := findClass_of_methodNamed Bd.named
  have hnm := (name_of_methodNamed Bd.named Bd.method).1
  have X0 : Stand p l e ({ frames := 0, cells := 0, slots := 0, locals := 0 } : Room) s m #[(.int p1)] below meth c s₁ [] 0 0 := Stand.of_body Bd
  have e0 : s₁.heap = h0 := by rw [← hh, Bd.state]; rfl
  have N0 := Fr.nil n0
  have pre0 : ∀ t, Steps p.tables e below (s₁.setTop (mkF m 0 #[.val (.int p1)] [])) t → Steps p.tables e below (s₁.setTop (entryFrame m #[(.int p1)] 1)) t := fun t k => castTop (ef_1_I m p1) k
  obtain ⟨T1, X1, e1, st1⟩ := getS2 X0 hx hZ hown (host := "") (Or.inl (hw _ (List.mem_of_getElem? (i := 5) rfl))) Via.refl e0 (P2.ext O0.2) (g := (mkF m 40 #[.val (.int p1)] [])) rfl (hb hby d1_40)
  obtain ⟨fs, hr, hrun, hended, hW, hsame⟩ := X1.leave (v := (some (.ref w_INFORMATIONAL))) (fun h => by rw [Bd.returns] at h; cases h)
  refine ⟨_, _, pre0 _ ?_, hrun, hended, _, _, rfl, ?_, ⟨_, rfl⟩, hW, hsame.mono (by decide) (by decide)⟩
  · show Steps p.tables e below (s₁.setTop (mkF m 0 #[.val (.int p1)] [])) _
    refine XS.iloadN X0.here hx rfl (hb hby d1_0) rfl ?_
    show Steps p.tables e below (s₁.setTop (mkF m 1 #[.val (.int p1)] [(.int p1)])) _
    refine XS.bipush X0.here hx rfl (hb hby d1_1) ?_
    show Steps p.tables e below (s₁.setTop (mkF m 3 #[.val (.int p1)] [(.int (100 : Int32)), (.int p1)])) _
    refine XS.idiv X0.here hx rfl (hb hby d1_3) rfl (by decide) ?_
    show Steps p.tables e below (s₁.setTop (mkF m 4 #[.val (.int p1)] [(.int (p1 / (100 : Int32)))])) _
    rw [P1]
    show Steps p.tables e below (s₁.setTop (mkF m 4 #[.val (.int p1)] [(.int (1 : Int32))])) _
    refine XS.tswIn X0.here hx rfl (pc0 := 4) (pc' := 40) rfl (hb hby d1_4) rfl (by decide) (o := 36) (by decide) (by decide) (by decide) ?_
    show Steps p.tables e below (s₁.setTop (mkF m 40 #[.val (.int p1)] [])) _
    refine st1 _ ?_
    show Steps p.tables e below (T1.setTop (mkF m 43 #[.val (.int p1)] [(.ref w_INFORMATIONAL)])) _
    refine XS.goto X1.here hx rfl (pc0 := 43) (pc' := 84) rfl (hb hby d1_43) (by decide) (by decide) ?_
    show Steps p.tables e below (T1.setTop (mkF m 84 #[.val (.int p1)] [(.ref w_INFORMATIONAL)])) _
    exact retA X1 hx Bd.returns rfl rfl rfl (hb hby d1_84) hr
  · show own_QP (some (.ref w_INFORMATIONAL)) n0 h0 _ T1.heap _
    rw [e1]
    exact ⟨rfl, N0, rfl⟩
set_option maxRecDepth 65536 in
set_option maxHeartbeats 40000000 in
theorem law_0 (l : Launch) (Z : State) (a0 : Array Value) (hw : ∀ d ∈ tables_1, d.before a0 Z = true) (ws : List Jvm.Cond) (p1 : Int32) (w_INFORMATIONAL : Addr) (h0 : Heap) (n0 : Nat) (O0 : Old Z n0 h0) (P1 : (((100 : Int32) + ((p1 &&& (2147483647 : Int32)) % (500 : Int32))) / (100 : Int32)) = (1 : Int32)) (P2 : Sta Z Z.heap "com/example/calm_current/calmcurrent/http/HttpStatus$Series" "INFORMATIONAL" "Lcom/example/calm_current/calmcurrent/http/HttpStatus$Series;" (.ref w_INFORMATIONAL)) (P3 : ¬ ((199 : Int32) < ((100 : Int32) + ((p1 &&& (2147483647 : Int32)) % (500 : Int32))))) :
    MetFree l x (head1 (Jvm.Cond.code x code maxLocals ret :: ws) room_1) (fun a U => a = #[(.int p1)] ∧ Z.Warmed39 U.vm ∧ U.heap = h0) (fun _ _ _ _ _ => True) (fun _ U o U' => ∃ v L, o = .returned v ∧ own_Q1 n0 v U'.heap L ∧ FrameEnd U o U' L room_1.cells room_1.slots) := by
  refine MetFree.of_bodySF (plainFor_of_name pn_3) hisR ?_
  intro p e s m args below meth c s₁ Bd hml0 hP hK
  obtain ⟨rfl, hZ, hh⟩ := hP
  have hx := Bd.exec
  have hby := Bd.bytes
  have hml : c.maxLocals = 4 := hml0
  have hown : s.vm.findClass "com/example/calm_current/calmcurrent/http/SeriesOfPinLaw" = some m.cls := findClass_of_methodNamed Bd.named
  have hnm := (name_of_methodNamed Bd.named Bd.method).1
  have X0 : Stand p l e room_1 s m #[(.int p1)] below meth c s₁ [] 0 0 := Stand.of_body Bd
  have e0 : s₁.heap = h0 := by rw [← hh, Bd.state]; rfl
  have N0 := Fr.nil n0
  have pre0 : ∀ t, Steps p.tables e below (s₁.setTop (mkF m 0 #[.val (.int p1), .unset, .unset, .unset] [])) t → Steps p.tables e below (s₁.setTop (entryFrame m #[(.int p1)] maxLocals)) t := fun t k => castTop (ef_0_I m p1) k
  obtain ⟨_, _, ⟨T1, L1, k1, n1⟩, -, X1, ⟨Lc1, hQ1, l1, y1, z1⟩, st1⟩ := Jvm.LawKit.callS X0 hx (y := (⟨"com/example/calm_current/calmcurrent/http/HttpStatus$Series", "of", "(I)Lcom/example/calm_current/calmcurrent/http/HttpStatus$Series;"⟩ : MethodName)) hown (mvT hZ (hw _ (List.mem_of_getElem? (i := 1) rfl))) (mvT hZ (hw _ (List.mem_of_getElem? (i := 2) rfl))) (mvT hZ (hw _ (List.mem_of_getElem? (i := 3) rfl))) (mvT hZ (hw _ (List.mem_of_getElem? (i := 4) rfl))) (by decide) (backOf (W := 0) (rm1_0 l Z a0 hw ((100 : Int32) + ((p1 &&& (2147483647 : Int32)) % (500 : Int32))) w_INFORMATIONAL h0 n0 O0 P1 P2) hZ (hw _ (List.mem_of_getElem? (i := 4) rfl)) (hw _ (List.mem_of_getElem? (i := 3) rfl)) (by decide) (by decide)) (g := (mkF m 13 #[.val (.int p1), .val (.int ((100 : Int32) + ((p1 &&& (2147483647 : Int32)) % (500 : Int32)))), .unset, .unset] [(.int ((100 : Int32) + ((p1 &&& (2147483647 : Int32)) % (500 : Int32))))])) rfl (by rw [hml]; rfl) (argsL := [(.int ((100 : Int32) + ((p1 &&& (2147483647 : Int32)) % (500 : Int32))))]) (rest := []) (lenOf pd_2 rfl) rfl (by show 2 * 0 + _ ≤ _; exact Nat.le_of_eq rfl) (hb hby at_13) (fun _ _ => ⟨rfl, e0, (by decide : 0 + 0 ≤ _), (by decide : 0 + 0 ≤ _)⟩)
  dsimp only [Pt.U, Pt.locs, Pt.cells, Pt.slots] at X1 l1 y1 z1 st1 hQ1
  subst l1 y1 z1
  obtain ⟨rfl, N1q, e1⟩ := hQ1
  have N1 := Fr.app N0 N1q
  obtain ⟨T2, X2, e2, st2⟩ := getS2 X1 hx hZ hown (host := "") (Or.inl (hw _ (List.mem_of_getElem? (i := 7) rfl))) Via.refl e1 (P2.ext O0.2) (g := (mkF m 24 #[.val (.int p1), .val (.int ((100 : Int32) + ((p1 &&& (2147483647 : Int32)) % (500 : Int32)))), .val (.ref w_INFORMATIONAL), .unset] [])) rfl (hb hby at_24)
  obtain ⟨fs, hr, hrun, hended, hW, hsame⟩ := X2.leave (v := some (.int (1 : Int32))) (fun h => by rw [Bd.returns] at h; cases h)
  refine ⟨_, _, pre0 _ ?_, hrun, hended, _, _, rfl, ?_, ⟨_, rfl⟩, hW, hsame.mono (by decide) (by decide)⟩
  · show Steps p.tables e below (s₁.setTop (mkF m 0 #[.val (.int p1), .unset, .unset, .unset] [])) _
    refine XS.bipush X0.here hx rfl (hb hby at_0) ?_
    show Steps p.tables e below (s₁.setTop (mkF m 2 #[.val (.int p1), .unset, .unset, .unset] [(.int (100 : Int32))])) _
    refine XS.iloadN X0.here hx rfl (hb hby at_2) rfl ?_
    show Steps p.tables e below (s₁.setTop (mkF m 3 #[.val (.int p1), .unset, .unset, .unset] [(.int p1), (.int (100 : Int32))])) _
    refine X0.ldcInt hx hown (mvT hZ (hw _ (List.mem_of_getElem? (i := 0) rfl))) (g := (mkF m 3 #[.val (.int p1), .unset, .unset, .unset] [(.int p1), (.int (100 : Int32))])) rfl (hb hby at_3) _ ?_
    show Steps p.tables e below (s₁.setTop (mkF m 5 #[.val (.int p1), .unset, .unset, .unset] [(.int (2147483647 : Int32)), (.int p1), (.int (100 : Int32))])) _
    refine XS.iand X0.here hx rfl (hb hby at_5) rfl ?_
    show Steps p.tables e below (s₁.setTop (mkF m 6 #[.val (.int p1), .unset, .unset, .unset] [(.int (p1 &&& (2147483647 : Int32))), (.int (100 : Int32))])) _
    refine XS.sipush X0.here hx rfl (hb hby at_6) ?_
    show Steps p.tables e below (s₁.setTop (mkF m 9 #[.val (.int p1), .unset, .unset, .unset] [(.int (500 : Int32)), (.int (p1 &&& (2147483647 : Int32))), (.int (100 : Int32))])) _
    refine iremM (g := (mkF m 9 #[.val (.int p1), .unset, .unset, .unset] [(.int (500 : Int32)), (.int (p1 &&& (2147483647 : Int32))), (.int (100 : Int32))])) X0 hx rfl (hb hby at_9) rfl (by decide) ?_
    show Steps p.tables e below (s₁.setTop (mkF m 10 #[.val (.int p1), .unset, .unset, .unset] [(.int ((p1 &&& (2147483647 : Int32)) % (500 : Int32))), (.int (100 : Int32))])) _
    refine XS.iadd X0.here hx rfl (hb hby at_10) rfl ?_
    show Steps p.tables e below (s₁.setTop (mkF m 11 #[.val (.int p1), .unset, .unset, .unset] [(.int ((100 : Int32) + ((p1 &&& (2147483647 : Int32)) % (500 : Int32))))])) _
    refine XS.istoreN X0.here hx rfl (hb hby at_11) rfl (l' := #[.val (.int p1), .val (.int ((100 : Int32) + ((p1 &&& (2147483647 : Int32)) % (500 : Int32)))), .unset, .unset]) rfl ?_
    show Steps p.tables e below (s₁.setTop (mkF m 12 #[.val (.int p1), .val (.int ((100 : Int32) + ((p1 &&& (2147483647 : Int32)) % (500 : Int32)))), .unset, .unset] [])) _
    refine XS.iloadN X0.here hx rfl (hb hby at_12) rfl ?_
    show Steps p.tables e below (s₁.setTop (mkF m 13 #[.val (.int p1), .val (.int ((100 : Int32) + ((p1 &&& (2147483647 : Int32)) % (500 : Int32)))), .unset, .unset] [(.int ((100 : Int32) + ((p1 &&& (2147483647 : Int32)) % (500 : Int32))))])) _
    refine st1 _ ?_
    show Steps p.tables e below (T1.setTop (mkF m 16 #[.val (.int p1), .val (.int ((100 : Int32) + ((p1 &&& (2147483647 : Int32)) % (500 : Int32)))), .unset, .unset] [(.ref w_INFORMATIONAL)])) _
    refine XS.astoreN X1.here hx rfl (hb hby at_16) rfl rfl (l' := #[.val (.int p1), .val (.int ((100 : Int32) + ((p1 &&& (2147483647 : Int32)) % (500 : Int32)))), .val (.ref w_INFORMATIONAL), .unset]) rfl ?_
    show Steps p.tables e below (T1.setTop (mkF m 17 #[.val (.int p1), .val (.int ((100 : Int32) + ((p1 &&& (2147483647 : Int32)) % (500 : Int32)))), .val (.ref w_INFORMATIONAL), .unset] [])) _
    refine XS.iloadN X1.here hx rfl (hb hby at_17) rfl ?_
    show Steps p.tables e below (T1.setTop (mkF m 18 #[.val (.int p1), .val (.int ((100 : Int32) + ((p1 &&& (2147483647 : Int32)) % (500 : Int32)))), .val (.ref w_INFORMATIONAL), .unset] [(.int ((100 : Int32) + ((p1 &&& (2147483647 : Int32)) % (500 : Int32))))])) _
    refine XS.sipush X1.here hx rfl (hb hby at_18) ?_
    show Steps p.tables e below (T1.setTop (mkF m 21 #[.val (.int p1), .val (.int ((100 : Int32) + ((p1 &&& (2147483647 : Int32)) % (500 : Int32)))), .val (.ref w_INFORMATIONAL), .unset] [(.int (199 : Int32)), (.int ((100 : Int32) + ((p1 &&& (2147483647 : Int32)) % (500 : Int32))))])) _
    refine XS.icmpNo X1.here hx rfl (hb hby at_21) rfl (flt P3).2.2.1 ?_
    show Steps p.tables e below (T1.setTop (mkF m 24 #[.val (.int p1), .val (.int ((100 : Int32) + ((p1 &&& (2147483647 : Int32)) % (500 : Int32)))), .val (.ref w_INFORMATIONAL), .unset] [])) _
    refine st2 _ ?_
    show Steps p.tables e below (T2.setTop (mkF m 27 #[.val (.int p1), .val (.int ((100 : Int32) + ((p1 &&& (2147483647 : Int32)) % (500 : Int32)))), .val (.ref w_INFORMATIONAL), .unset] [(.ref w_INFORMATIONAL)])) _
    refine XS.astoreN X2.here hx rfl (hb hby at_27) rfl rfl (l' := #[.val (.int p1), .val (.int ((100 : Int32) + ((p1 &&& (2147483647 : Int32)) % (500 : Int32)))), .val (.ref w_INFORMATIONAL), .val (.ref w_INFORMATIONAL)]) rfl ?_
    show Steps p.tables e below (T2.setTop (mkF m 28 #[.val (.int p1), .val (.int ((100 : Int32) + ((p1 &&& (2147483647 : Int32)) % (500 : Int32)))), .val (.ref w_INFORMATIONAL), .val (.ref w_INFORMATIONAL)] [])) _
    refine XS.goto X2.here hx rfl (pc0 := 28) (pc' := 77) rfl (hb hby at_28) (by decide) (by decide) ?_
    show Steps p.tables e below (T2.setTop (mkF m 77 #[.val (.int p1), .val (.int ((100 : Int32) + ((p1 &&& (2147483647 : Int32)) % (500 : Int32)))), .val (.ref w_INFORMATIONAL), .val (.ref w_INFORMATIONAL)] [])) _
    refine XS.aloadN X2.here hx rfl (hb hby at_77) rfl rfl ?_
    show Steps p.tables e below (T2.setTop (mkF m 78 #[.val (.int p1), .val (.int ((100 : Int32) + ((p1 &&& (2147483647 : Int32)) % (500 : Int32)))), .val (.ref w_INFORMATIONAL), .val (.ref w_INFORMATIONAL)] [(.ref w_INFORMATIONAL)])) _
    refine XS.aloadN X2.here hx rfl (hb hby at_78) rfl rfl ?_
    show Steps p.tables e below (T2.setTop (mkF m 79 #[.val (.int p1), .val (.int ((100 : Int32) + ((p1 &&& (2147483647 : Int32)) % (500 : Int32)))), .val (.ref w_INFORMATIONAL), .val (.ref w_INFORMATIONAL)] [(.ref w_INFORMATIONAL), (.ref w_INFORMATIONAL)])) _
    refine Jvm.RoadKit.acmp (g := (mkF m 79 #[.val (.int p1), .val (.int ((100 : Int32) + ((p1 &&& (2147483647 : Int32)) % (500 : Int32)))), .val (.ref w_INFORMATIONAL), .val (.ref w_INFORMATIONAL)] [(.ref w_INFORMATIONAL), (.ref w_INFORMATIONAL)])) X2 hx rfl rfl rfl (pc0 := 79) (pc' := 82) (same := true) rfl (hb hby at_79) rfl (decide_eq_true rfl) (by decide) (by decide) ?_
    show Steps p.tables e below (T2.setTop (mkF m 82 #[.val (.int p1), .val (.int ((100 : Int32) + ((p1 &&& (2147483647 : Int32)) % (500 : Int32)))), .val (.ref w_INFORMATIONAL), .val (.ref w_INFORMATIONAL)] [])) _
    refine XS.iconst X2.here hx rfl (hb hby at_82) ?_
    show Steps p.tables e below (T2.setTop (mkF m 83 #[.val (.int p1), .val (.int ((100 : Int32) + ((p1 &&& (2147483647 : Int32)) % (500 : Int32)))), .val (.ref w_INFORMATIONAL), .val (.ref w_INFORMATIONAL)] [(.int (1 : Int32))])) _
    refine XS.goto X2.here hx rfl (pc0 := 83) (pc' := 87) rfl (hb hby at_83) (by decide) (by decide) ?_
    show Steps p.tables e below (T2.setTop (mkF m 87 #[.val (.int p1), .val (.int ((100 : Int32) + ((p1 &&& (2147483647 : Int32)) % (500 : Int32)))), .val (.ref w_INFORMATIONAL), .val (.ref w_INFORMATIONAL)] [(.int (1 : Int32))])) _
    exact retN X2 hx (t := .boolean) Bd.returns (by simp) (hb hby at_87) hr
  · show own_Q1 n0 _ T2.heap _
    rw [e2]
    exact ⟨rfl, N1⟩
set_option maxRecDepth 65536 in
set_option maxHeartbeats 40000000 in
theorem rm1_1 (l : Launch) (Z : State) (a0 : Array Value) (hw : ∀ d ∈ tables_1, d.before a0 Z = true) (p1 : Int32) (w_SUCCESSFUL : Addr) (h0 : Heap) (n0 : Nat) (O0 : Old Z n0 h0) (P1 : (p1 / (100 : Int32)) = (2 : Int32)) (P2 : Sta Z Z.heap "com/example/calm_current/calmcurrent/http/HttpStatus$Series" "SUCCESSFUL" "Lcom/example/calm_current/calmcurrent/http/HttpStatus$Series;" (.ref w_SUCCESSFUL)) :
    MetFree l (⟨"com/example/calm_current/calmcurrent/http/HttpStatus$Series", "of", "(I)Lcom/example/calm_current/calmcurrent/http/HttpStatus$Series;"⟩ : MethodName) (head1 [Jvm.Cond.code (⟨"com/example/calm_current/calmcurrent/http/HttpStatus$Series", "of", "(I)Lcom/example/calm_current/calmcurrent/http/HttpStatus$Series;"⟩ : MethodName) prog_15_method_4_code 1 (some (.object "com/example/calm_current/calmcurrent/http/HttpStatus$Series"))] ({ frames := 0, cells := 0, slots := 0, locals := 0 } : Room)) (fun a U => a = #[(.int p1)] ∧ Z.Warmed39 U.vm ∧ U.heap = h0) (fun _ _ _ _ _ => True) (fun _ U o U' => ∃ v L, o = .returned v ∧ own_QP (some (.ref w_SUCCESSFUL)) n0 h0 v U'.heap L ∧ FrameEnd U o U' L ({ frames := 0, cells := 0, slots := 0, locals := 0 } : Room).cells ({ frames := 0, cells := 0, slots := 0, locals := 0 } : Room).slots) := by
  refine MetFree.of_bodySF (plainFor_of_name pn_0) hisR ?_
  intro p e s m args below meth c s₁ Bd hml0 hP hK
  obtain ⟨rfl, hZ, hh⟩ := hP
  have hx := Bd.exec
  have hby := Bd.bytes
  have hml : c.maxLocals = 1 := hml0
  have hown : s.vm.findClass "com/example/calm_current/calmcurrent/http/HttpStatus$Series" = some m.cls := findClass_of_methodNamed Bd.named
  have hnm := (name_of_methodNamed Bd.named Bd.method).1
  have X0 : Stand p l e ({ frames := 0, cells := 0, slots := 0, locals := 0 } : Room) s m #[(.int p1)] below meth c s₁ [] 0 0 := Stand.of_body Bd
  have e0 : s₁.heap = h0 := by rw [← hh, Bd.state]; rfl
  have N0 := Fr.nil n0
  have pre0 : ∀ t, Steps p.tables e below (s₁.setTop (mkF m 0 #[.val (.int p1)] [])) t → Steps p.tables e below (s₁.setTop (entryFrame m #[(.int p1)] 1)) t := fun t k => castTop (ef_1_I m p1) k
  obtain ⟨T1, X1, e1, st1⟩ := getS2 X0 hx hZ hown (host := "") (Or.inl (hw _ (List.mem_of_getElem? (i := 8) rfl))) Via.refl e0 (P2.ext O0.2) (g := (mkF m 46 #[.val (.int p1)] [])) rfl (hb hby d1_46)
  obtain ⟨fs, hr, hrun, hended, hW, hsame⟩ := X1.leave (v := (some (.ref w_SUCCESSFUL))) (fun h => by rw [Bd.returns] at h; cases h)
  refine ⟨_, _, pre0 _ ?_, hrun, hended, _, _, rfl, ?_, ⟨_, rfl⟩, hW, hsame.mono (by decide) (by decide)⟩
  · show Steps p.tables e below (s₁.setTop (mkF m 0 #[.val (.int p1)] [])) _
    refine XS.iloadN X0.here hx rfl (hb hby d1_0) rfl ?_
    show Steps p.tables e below (s₁.setTop (mkF m 1 #[.val (.int p1)] [(.int p1)])) _
    refine XS.bipush X0.here hx rfl (hb hby d1_1) ?_
    show Steps p.tables e below (s₁.setTop (mkF m 3 #[.val (.int p1)] [(.int (100 : Int32)), (.int p1)])) _
    refine XS.idiv X0.here hx rfl (hb hby d1_3) rfl (by decide) ?_
    show Steps p.tables e below (s₁.setTop (mkF m 4 #[.val (.int p1)] [(.int (p1 / (100 : Int32)))])) _
    rw [P1]
    show Steps p.tables e below (s₁.setTop (mkF m 4 #[.val (.int p1)] [(.int (2 : Int32))])) _
    refine XS.tswIn X0.here hx rfl (pc0 := 4) (pc' := 46) rfl (hb hby d1_4) rfl (by decide) (o := 42) (by decide) (by decide) (by decide) ?_
    show Steps p.tables e below (s₁.setTop (mkF m 46 #[.val (.int p1)] [])) _
    refine st1 _ ?_
    show Steps p.tables e below (T1.setTop (mkF m 49 #[.val (.int p1)] [(.ref w_SUCCESSFUL)])) _
    refine XS.goto X1.here hx rfl (pc0 := 49) (pc' := 84) rfl (hb hby d1_49) (by decide) (by decide) ?_
    show Steps p.tables e below (T1.setTop (mkF m 84 #[.val (.int p1)] [(.ref w_SUCCESSFUL)])) _
    exact retA X1 hx Bd.returns rfl rfl rfl (hb hby d1_84) hr
  · show own_QP (some (.ref w_SUCCESSFUL)) n0 h0 _ T1.heap _
    rw [e1]
    exact ⟨rfl, N0, rfl⟩
set_option maxRecDepth 65536 in
set_option maxHeartbeats 40000000 in
theorem law_1 (l : Launch) (Z : State) (a0 : Array Value) (hw : ∀ d ∈ tables_1, d.before a0 Z = true) (ws : List Jvm.Cond) (p1 : Int32) (w_SUCCESSFUL : Addr) (h0 : Heap) (n0 : Nat) (O0 : Old Z n0 h0) (P1 : (((100 : Int32) + ((p1 &&& (2147483647 : Int32)) % (500 : Int32))) / (100 : Int32)) = (2 : Int32)) (P2 : Sta Z Z.heap "com/example/calm_current/calmcurrent/http/HttpStatus$Series" "SUCCESSFUL" "Lcom/example/calm_current/calmcurrent/http/HttpStatus$Series;" (.ref w_SUCCESSFUL)) (P3 : (199 : Int32) < ((100 : Int32) + ((p1 &&& (2147483647 : Int32)) % (500 : Int32)))) (P4 : ¬ ((299 : Int32) < ((100 : Int32) + ((p1 &&& (2147483647 : Int32)) % (500 : Int32))))) :
    MetFree l x (head1 (Jvm.Cond.code x code maxLocals ret :: ws) room_1) (fun a U => a = #[(.int p1)] ∧ Z.Warmed39 U.vm ∧ U.heap = h0) (fun _ _ _ _ _ => True) (fun _ U o U' => ∃ v L, o = .returned v ∧ own_Q1 n0 v U'.heap L ∧ FrameEnd U o U' L room_1.cells room_1.slots) := by
  refine MetFree.of_bodySF (plainFor_of_name pn_3) hisR ?_
  intro p e s m args below meth c s₁ Bd hml0 hP hK
  obtain ⟨rfl, hZ, hh⟩ := hP
  have hx := Bd.exec
  have hby := Bd.bytes
  have hml : c.maxLocals = 4 := hml0
  have hown : s.vm.findClass "com/example/calm_current/calmcurrent/http/SeriesOfPinLaw" = some m.cls := findClass_of_methodNamed Bd.named
  have hnm := (name_of_methodNamed Bd.named Bd.method).1
  have X0 : Stand p l e room_1 s m #[(.int p1)] below meth c s₁ [] 0 0 := Stand.of_body Bd
  have e0 : s₁.heap = h0 := by rw [← hh, Bd.state]; rfl
  have N0 := Fr.nil n0
  have pre0 : ∀ t, Steps p.tables e below (s₁.setTop (mkF m 0 #[.val (.int p1), .unset, .unset, .unset] [])) t → Steps p.tables e below (s₁.setTop (entryFrame m #[(.int p1)] maxLocals)) t := fun t k => castTop (ef_0_I m p1) k
  obtain ⟨_, _, ⟨T1, L1, k1, n1⟩, -, X1, ⟨Lc1, hQ1, l1, y1, z1⟩, st1⟩ := Jvm.LawKit.callS X0 hx (y := (⟨"com/example/calm_current/calmcurrent/http/HttpStatus$Series", "of", "(I)Lcom/example/calm_current/calmcurrent/http/HttpStatus$Series;"⟩ : MethodName)) hown (mvT hZ (hw _ (List.mem_of_getElem? (i := 1) rfl))) (mvT hZ (hw _ (List.mem_of_getElem? (i := 2) rfl))) (mvT hZ (hw _ (List.mem_of_getElem? (i := 3) rfl))) (mvT hZ (hw _ (List.mem_of_getElem? (i := 4) rfl))) (by decide) (backOf (W := 0) (rm1_1 l Z a0 hw ((100 : Int32) + ((p1 &&& (2147483647 : Int32)) % (500 : Int32))) w_SUCCESSFUL h0 n0 O0 P1 P2) hZ (hw _ (List.mem_of_getElem? (i := 4) rfl)) (hw _ (List.mem_of_getElem? (i := 3) rfl)) (by decide) (by decide)) (g := (mkF m 13 #[.val (.int p1), .val (.int ((100 : Int32) + ((p1 &&& (2147483647 : Int32)) % (500 : Int32)))), .unset, .unset] [(.int ((100 : Int32) + ((p1 &&& (2147483647 : Int32)) % (500 : Int32))))])) rfl (by rw [hml]; rfl) (argsL := [(.int ((100 : Int32) + ((p1 &&& (2147483647 : Int32)) % (500 : Int32))))]) (rest := []) (lenOf pd_2 rfl) rfl (by show 2 * 0 + _ ≤ _; exact Nat.le_of_eq rfl) (hb hby at_13) (fun _ _ => ⟨rfl, e0, (by decide : 0 + 0 ≤ _), (by decide : 0 + 0 ≤ _)⟩)
  dsimp only [Pt.U, Pt.locs, Pt.cells, Pt.slots] at X1 l1 y1 z1 st1 hQ1
  subst l1 y1 z1
  obtain ⟨rfl, N1q, e1⟩ := hQ1
  have N1 := Fr.app N0 N1q
  obtain ⟨T2, X2, e2, st2⟩ := getS2 X1 hx hZ hown (host := "") (Or.inl (hw _ (List.mem_of_getElem? (i := 10) rfl))) Via.refl e1 (P2.ext O0.2) (g := (mkF m 38 #[.val (.int p1), .val (.int ((100 : Int32) + ((p1 &&& (2147483647 : Int32)) % (500 : Int32)))), .val (.ref w_SUCCESSFUL), .unset] [])) rfl (hb hby at_38)
  obtain ⟨fs, hr, hrun, hended, hW, hsame⟩ := X2.leave (v := some (.int (1 : Int32))) (fun h => by rw [Bd.returns] at h; cases h)
  refine ⟨_, _, pre0 _ ?_, hrun, hended, _, _, rfl, ?_, ⟨_, rfl⟩, hW, hsame.mono (by decide) (by decide)⟩
  · show Steps p.tables e below (s₁.setTop (mkF m 0 #[.val (.int p1), .unset, .unset, .unset] [])) _
    refine XS.bipush X0.here hx rfl (hb hby at_0) ?_
    show Steps p.tables e below (s₁.setTop (mkF m 2 #[.val (.int p1), .unset, .unset, .unset] [(.int (100 : Int32))])) _
    refine XS.iloadN X0.here hx rfl (hb hby at_2) rfl ?_
    show Steps p.tables e below (s₁.setTop (mkF m 3 #[.val (.int p1), .unset, .unset, .unset] [(.int p1), (.int (100 : Int32))])) _
    refine X0.ldcInt hx hown (mvT hZ (hw _ (List.mem_of_getElem? (i := 0) rfl))) (g := (mkF m 3 #[.val (.int p1), .unset, .unset, .unset] [(.int p1), (.int (100 : Int32))])) rfl (hb hby at_3) _ ?_
    show Steps p.tables e below (s₁.setTop (mkF m 5 #[.val (.int p1), .unset, .unset, .unset] [(.int (2147483647 : Int32)), (.int p1), (.int (100 : Int32))])) _
    refine XS.iand X0.here hx rfl (hb hby at_5) rfl ?_
    show Steps p.tables e below (s₁.setTop (mkF m 6 #[.val (.int p1), .unset, .unset, .unset] [(.int (p1 &&& (2147483647 : Int32))), (.int (100 : Int32))])) _
    refine XS.sipush X0.here hx rfl (hb hby at_6) ?_
    show Steps p.tables e below (s₁.setTop (mkF m 9 #[.val (.int p1), .unset, .unset, .unset] [(.int (500 : Int32)), (.int (p1 &&& (2147483647 : Int32))), (.int (100 : Int32))])) _
    refine iremM (g := (mkF m 9 #[.val (.int p1), .unset, .unset, .unset] [(.int (500 : Int32)), (.int (p1 &&& (2147483647 : Int32))), (.int (100 : Int32))])) X0 hx rfl (hb hby at_9) rfl (by decide) ?_
    show Steps p.tables e below (s₁.setTop (mkF m 10 #[.val (.int p1), .unset, .unset, .unset] [(.int ((p1 &&& (2147483647 : Int32)) % (500 : Int32))), (.int (100 : Int32))])) _
    refine XS.iadd X0.here hx rfl (hb hby at_10) rfl ?_
    show Steps p.tables e below (s₁.setTop (mkF m 11 #[.val (.int p1), .unset, .unset, .unset] [(.int ((100 : Int32) + ((p1 &&& (2147483647 : Int32)) % (500 : Int32))))])) _
    refine XS.istoreN X0.here hx rfl (hb hby at_11) rfl (l' := #[.val (.int p1), .val (.int ((100 : Int32) + ((p1 &&& (2147483647 : Int32)) % (500 : Int32)))), .unset, .unset]) rfl ?_
    show Steps p.tables e below (s₁.setTop (mkF m 12 #[.val (.int p1), .val (.int ((100 : Int32) + ((p1 &&& (2147483647 : Int32)) % (500 : Int32)))), .unset, .unset] [])) _
    refine XS.iloadN X0.here hx rfl (hb hby at_12) rfl ?_
    show Steps p.tables e below (s₁.setTop (mkF m 13 #[.val (.int p1), .val (.int ((100 : Int32) + ((p1 &&& (2147483647 : Int32)) % (500 : Int32)))), .unset, .unset] [(.int ((100 : Int32) + ((p1 &&& (2147483647 : Int32)) % (500 : Int32))))])) _
    refine st1 _ ?_
    show Steps p.tables e below (T1.setTop (mkF m 16 #[.val (.int p1), .val (.int ((100 : Int32) + ((p1 &&& (2147483647 : Int32)) % (500 : Int32)))), .unset, .unset] [(.ref w_SUCCESSFUL)])) _
    refine XS.astoreN X1.here hx rfl (hb hby at_16) rfl rfl (l' := #[.val (.int p1), .val (.int ((100 : Int32) + ((p1 &&& (2147483647 : Int32)) % (500 : Int32)))), .val (.ref w_SUCCESSFUL), .unset]) rfl ?_
    show Steps p.tables e below (T1.setTop (mkF m 17 #[.val (.int p1), .val (.int ((100 : Int32) + ((p1 &&& (2147483647 : Int32)) % (500 : Int32)))), .val (.ref w_SUCCESSFUL), .unset] [])) _
    refine XS.iloadN X1.here hx rfl (hb hby at_17) rfl ?_
    show Steps p.tables e below (T1.setTop (mkF m 18 #[.val (.int p1), .val (.int ((100 : Int32) + ((p1 &&& (2147483647 : Int32)) % (500 : Int32)))), .val (.ref w_SUCCESSFUL), .unset] [(.int ((100 : Int32) + ((p1 &&& (2147483647 : Int32)) % (500 : Int32))))])) _
    refine XS.sipush X1.here hx rfl (hb hby at_18) ?_
    show Steps p.tables e below (T1.setTop (mkF m 21 #[.val (.int p1), .val (.int ((100 : Int32) + ((p1 &&& (2147483647 : Int32)) % (500 : Int32)))), .val (.ref w_SUCCESSFUL), .unset] [(.int (199 : Int32)), (.int ((100 : Int32) + ((p1 &&& (2147483647 : Int32)) % (500 : Int32))))])) _
    refine XS.icmpYes X1.here hx rfl (pc0 := 21) (pc' := 31) rfl (hb hby at_21) rfl (tlt P3).2.2.1 (by decide) (by decide) ?_
    show Steps p.tables e below (T1.setTop (mkF m 31 #[.val (.int p1), .val (.int ((100 : Int32) + ((p1 &&& (2147483647 : Int32)) % (500 : Int32)))), .val (.ref w_SUCCESSFUL), .unset] [])) _
    refine XS.iloadN X1.here hx rfl (hb hby at_31) rfl ?_
    show Steps p.tables e below (T1.setTop (mkF m 32 #[.val (.int p1), .val (.int ((100 : Int32) + ((p1 &&& (2147483647 : Int32)) % (500 : Int32)))), .val (.ref w_SUCCESSFUL), .unset] [(.int ((100 : Int32) + ((p1 &&& (2147483647 : Int32)) % (500 : Int32))))])) _
    refine XS.sipush X1.here hx rfl (hb hby at_32) ?_
    show Steps p.tables e below (T1.setTop (mkF m 35 #[.val (.int p1), .val (.int ((100 : Int32) + ((p1 &&& (2147483647 : Int32)) % (500 : Int32)))), .val (.ref w_SUCCESSFUL), .unset] [(.int (299 : Int32)), (.int ((100 : Int32) + ((p1 &&& (2147483647 : Int32)) % (500 : Int32))))])) _
    refine XS.icmpNo X1.here hx rfl (hb hby at_35) rfl (flt P4).2.2.1 ?_
    show Steps p.tables e below (T1.setTop (mkF m 38 #[.val (.int p1), .val (.int ((100 : Int32) + ((p1 &&& (2147483647 : Int32)) % (500 : Int32)))), .val (.ref w_SUCCESSFUL), .unset] [])) _
    refine st2 _ ?_
    show Steps p.tables e below (T2.setTop (mkF m 41 #[.val (.int p1), .val (.int ((100 : Int32) + ((p1 &&& (2147483647 : Int32)) % (500 : Int32)))), .val (.ref w_SUCCESSFUL), .unset] [(.ref w_SUCCESSFUL)])) _
    refine XS.astoreN X2.here hx rfl (hb hby at_41) rfl rfl (l' := #[.val (.int p1), .val (.int ((100 : Int32) + ((p1 &&& (2147483647 : Int32)) % (500 : Int32)))), .val (.ref w_SUCCESSFUL), .val (.ref w_SUCCESSFUL)]) rfl ?_
    show Steps p.tables e below (T2.setTop (mkF m 42 #[.val (.int p1), .val (.int ((100 : Int32) + ((p1 &&& (2147483647 : Int32)) % (500 : Int32)))), .val (.ref w_SUCCESSFUL), .val (.ref w_SUCCESSFUL)] [])) _
    refine XS.goto X2.here hx rfl (pc0 := 42) (pc' := 77) rfl (hb hby at_42) (by decide) (by decide) ?_
    show Steps p.tables e below (T2.setTop (mkF m 77 #[.val (.int p1), .val (.int ((100 : Int32) + ((p1 &&& (2147483647 : Int32)) % (500 : Int32)))), .val (.ref w_SUCCESSFUL), .val (.ref w_SUCCESSFUL)] [])) _
    refine XS.aloadN X2.here hx rfl (hb hby at_77) rfl rfl ?_
    show Steps p.tables e below (T2.setTop (mkF m 78 #[.val (.int p1), .val (.int ((100 : Int32) + ((p1 &&& (2147483647 : Int32)) % (500 : Int32)))), .val (.ref w_SUCCESSFUL), .val (.ref w_SUCCESSFUL)] [(.ref w_SUCCESSFUL)])) _
    refine XS.aloadN X2.here hx rfl (hb hby at_78) rfl rfl ?_
    show Steps p.tables e below (T2.setTop (mkF m 79 #[.val (.int p1), .val (.int ((100 : Int32) + ((p1 &&& (2147483647 : Int32)) % (500 : Int32)))), .val (.ref w_SUCCESSFUL), .val (.ref w_SUCCESSFUL)] [(.ref w_SUCCESSFUL), (.ref w_SUCCESSFUL)])) _
    refine Jvm.RoadKit.acmp (g := (mkF m 79 #[.val (.int p1), .val (.int ((100 : Int32) + ((p1 &&& (2147483647 : Int32)) % (500 : Int32)))), .val (.ref w_SUCCESSFUL), .val (.ref w_SUCCESSFUL)] [(.ref w_SUCCESSFUL), (.ref w_SUCCESSFUL)])) X2 hx rfl rfl rfl (pc0 := 79) (pc' := 82) (same := true) rfl (hb hby at_79) rfl (decide_eq_true rfl) (by decide) (by decide) ?_
    show Steps p.tables e below (T2.setTop (mkF m 82 #[.val (.int p1), .val (.int ((100 : Int32) + ((p1 &&& (2147483647 : Int32)) % (500 : Int32)))), .val (.ref w_SUCCESSFUL), .val (.ref w_SUCCESSFUL)] [])) _
    refine XS.iconst X2.here hx rfl (hb hby at_82) ?_
    show Steps p.tables e below (T2.setTop (mkF m 83 #[.val (.int p1), .val (.int ((100 : Int32) + ((p1 &&& (2147483647 : Int32)) % (500 : Int32)))), .val (.ref w_SUCCESSFUL), .val (.ref w_SUCCESSFUL)] [(.int (1 : Int32))])) _
    refine XS.goto X2.here hx rfl (pc0 := 83) (pc' := 87) rfl (hb hby at_83) (by decide) (by decide) ?_
    show Steps p.tables e below (T2.setTop (mkF m 87 #[.val (.int p1), .val (.int ((100 : Int32) + ((p1 &&& (2147483647 : Int32)) % (500 : Int32)))), .val (.ref w_SUCCESSFUL), .val (.ref w_SUCCESSFUL)] [(.int (1 : Int32))])) _
    exact retN X2 hx (t := .boolean) Bd.returns (by simp) (hb hby at_87) hr
  · show own_Q1 n0 _ T2.heap _
    rw [e2]
    exact ⟨rfl, N1⟩
set_option maxRecDepth 65536 in
set_option maxHeartbeats 40000000 in
theorem rm1_2 (l : Launch) (Z : State) (a0 : Array Value) (hw : ∀ d ∈ tables_1, d.before a0 Z = true) (p1 : Int32) (w_REDIRECTION : Addr) (h0 : Heap) (n0 : Nat) (O0 : Old Z n0 h0) (P1 : (p1 / (100 : Int32)) = (3 : Int32)) (P2 : Sta Z Z.heap "com/example/calm_current/calmcurrent/http/HttpStatus$Series" "REDIRECTION" "Lcom/example/calm_current/calmcurrent/http/HttpStatus$Series;" (.ref w_REDIRECTION)) :
    MetFree l (⟨"com/example/calm_current/calmcurrent/http/HttpStatus$Series", "of", "(I)Lcom/example/calm_current/calmcurrent/http/HttpStatus$Series;"⟩ : MethodName) (head1 [Jvm.Cond.code (⟨"com/example/calm_current/calmcurrent/http/HttpStatus$Series", "of", "(I)Lcom/example/calm_current/calmcurrent/http/HttpStatus$Series;"⟩ : MethodName) prog_15_method_4_code 1 (some (.object "com/example/calm_current/calmcurrent/http/HttpStatus$Series"))] ({ frames := 0, cells := 0, slots := 0, locals := 0 } : Room)) (fun a U => a = #[(.int p1)] ∧ Z.Warmed39 U.vm ∧ U.heap = h0) (fun _ _ _ _ _ => True) (fun _ U o U' => ∃ v L, o = .returned v ∧ own_QP (some (.ref w_REDIRECTION)) n0 h0 v U'.heap L ∧ FrameEnd U o U' L ({ frames := 0, cells := 0, slots := 0, locals := 0 } : Room).cells ({ frames := 0, cells := 0, slots := 0, locals := 0 } : Room).slots) := by
  refine MetFree.of_bodySF (plainFor_of_name pn_0) hisR ?_
  intro p e s m args below meth c s₁ Bd hml0 hP hK
  obtain ⟨rfl, hZ, hh⟩ := hP
  have hx := Bd.exec
  have hby := Bd.bytes
  have hml : c.maxLocals = 1 := hml0
  have hown : s.vm.findClass "com/example/calm_current/calmcurrent/http/HttpStatus$Series" = some m.cls := findClass_of_methodNamed Bd.named
  have hnm := (name_of_methodNamed Bd.named Bd.method).1
  have X0 : Stand p l e ({ frames := 0, cells := 0, slots := 0, locals := 0 } : Room) s m #[(.int p1)] below meth c s₁ [] 0 0 := Stand.of_body Bd
  have e0 : s₁.heap = h0 := by rw [← hh, Bd.state]; rfl
  have N0 := Fr.nil n0
  have pre0 : ∀ t, Steps p.tables e below (s₁.setTop (mkF m 0 #[.val (.int p1)] [])) t → Steps p.tables e below (s₁.setTop (entryFrame m #[(.int p1)] 1)) t := fun t k => castTop (ef_1_I m p1) k
  obtain ⟨T1, X1, e1, st1⟩ := getS2 X0 hx hZ hown (host := "") (Or.inl (hw _ (List.mem_of_getElem? (i := 14) rfl))) Via.refl e0 (P2.ext O0.2) (g := (mkF m 52 #[.val (.int p1)] [])) rfl (hb hby d1_52)
  obtain ⟨fs, hr, hrun, hended, hW, hsame⟩ := X1.leave (v := (some (.ref w_REDIRECTION))) (fun h => by rw [Bd.returns] at h; cases h)
  refine ⟨_, _, pre0 _ ?_, hrun, hended, _, _, rfl, ?_, ⟨_, rfl⟩, hW, hsame.mono (by decide) (by decide)⟩
  · show Steps p.tables e below (s₁.setTop (mkF m 0 #[.val (.int p1)] [])) _
    refine XS.iloadN X0.here hx rfl (hb hby d1_0) rfl ?_
    show Steps p.tables e below (s₁.setTop (mkF m 1 #[.val (.int p1)] [(.int p1)])) _
    refine XS.bipush X0.here hx rfl (hb hby d1_1) ?_
    show Steps p.tables e below (s₁.setTop (mkF m 3 #[.val (.int p1)] [(.int (100 : Int32)), (.int p1)])) _
    refine XS.idiv X0.here hx rfl (hb hby d1_3) rfl (by decide) ?_
    show Steps p.tables e below (s₁.setTop (mkF m 4 #[.val (.int p1)] [(.int (p1 / (100 : Int32)))])) _
    rw [P1]
    show Steps p.tables e below (s₁.setTop (mkF m 4 #[.val (.int p1)] [(.int (3 : Int32))])) _
    refine XS.tswIn X0.here hx rfl (pc0 := 4) (pc' := 52) rfl (hb hby d1_4) rfl (by decide) (o := 48) (by decide) (by decide) (by decide) ?_
    show Steps p.tables e below (s₁.setTop (mkF m 52 #[.val (.int p1)] [])) _
    refine st1 _ ?_
    show Steps p.tables e below (T1.setTop (mkF m 55 #[.val (.int p1)] [(.ref w_REDIRECTION)])) _
    refine XS.goto X1.here hx rfl (pc0 := 55) (pc' := 84) rfl (hb hby d1_55) (by decide) (by decide) ?_
    show Steps p.tables e below (T1.setTop (mkF m 84 #[.val (.int p1)] [(.ref w_REDIRECTION)])) _
    exact retA X1 hx Bd.returns rfl rfl rfl (hb hby d1_84) hr
  · show own_QP (some (.ref w_REDIRECTION)) n0 h0 _ T1.heap _
    rw [e1]
    exact ⟨rfl, N0, rfl⟩
set_option maxRecDepth 65536 in
set_option maxHeartbeats 40000000 in
theorem law_2 (l : Launch) (Z : State) (a0 : Array Value) (hw : ∀ d ∈ tables_1, d.before a0 Z = true) (ws : List Jvm.Cond) (p1 : Int32) (w_REDIRECTION : Addr) (h0 : Heap) (n0 : Nat) (O0 : Old Z n0 h0) (P1 : (((100 : Int32) + ((p1 &&& (2147483647 : Int32)) % (500 : Int32))) / (100 : Int32)) = (3 : Int32)) (P2 : Sta Z Z.heap "com/example/calm_current/calmcurrent/http/HttpStatus$Series" "REDIRECTION" "Lcom/example/calm_current/calmcurrent/http/HttpStatus$Series;" (.ref w_REDIRECTION)) (P3 : (199 : Int32) < ((100 : Int32) + ((p1 &&& (2147483647 : Int32)) % (500 : Int32)))) (P4 : (299 : Int32) < ((100 : Int32) + ((p1 &&& (2147483647 : Int32)) % (500 : Int32)))) (P5 : ¬ ((399 : Int32) < ((100 : Int32) + ((p1 &&& (2147483647 : Int32)) % (500 : Int32))))) :
    MetFree l x (head1 (Jvm.Cond.code x code maxLocals ret :: ws) room_1) (fun a U => a = #[(.int p1)] ∧ Z.Warmed39 U.vm ∧ U.heap = h0) (fun _ _ _ _ _ => True) (fun _ U o U' => ∃ v L, o = .returned v ∧ own_Q1 n0 v U'.heap L ∧ FrameEnd U o U' L room_1.cells room_1.slots) := by
  refine MetFree.of_bodySF (plainFor_of_name pn_3) hisR ?_
  intro p e s m args below meth c s₁ Bd hml0 hP hK
  obtain ⟨rfl, hZ, hh⟩ := hP
  have hx := Bd.exec
  have hby := Bd.bytes
  have hml : c.maxLocals = 4 := hml0
  have hown : s.vm.findClass "com/example/calm_current/calmcurrent/http/SeriesOfPinLaw" = some m.cls := findClass_of_methodNamed Bd.named
  have hnm := (name_of_methodNamed Bd.named Bd.method).1
  have X0 : Stand p l e room_1 s m #[(.int p1)] below meth c s₁ [] 0 0 := Stand.of_body Bd
  have e0 : s₁.heap = h0 := by rw [← hh, Bd.state]; rfl
  have N0 := Fr.nil n0
  have pre0 : ∀ t, Steps p.tables e below (s₁.setTop (mkF m 0 #[.val (.int p1), .unset, .unset, .unset] [])) t → Steps p.tables e below (s₁.setTop (entryFrame m #[(.int p1)] maxLocals)) t := fun t k => castTop (ef_0_I m p1) k
  obtain ⟨_, _, ⟨T1, L1, k1, n1⟩, -, X1, ⟨Lc1, hQ1, l1, y1, z1⟩, st1⟩ := Jvm.LawKit.callS X0 hx (y := (⟨"com/example/calm_current/calmcurrent/http/HttpStatus$Series", "of", "(I)Lcom/example/calm_current/calmcurrent/http/HttpStatus$Series;"⟩ : MethodName)) hown (mvT hZ (hw _ (List.mem_of_getElem? (i := 1) rfl))) (mvT hZ (hw _ (List.mem_of_getElem? (i := 2) rfl))) (mvT hZ (hw _ (List.mem_of_getElem? (i := 3) rfl))) (mvT hZ (hw _ (List.mem_of_getElem? (i := 4) rfl))) (by decide) (backOf (W := 0) (rm1_2 l Z a0 hw ((100 : Int32) + ((p1 &&& (2147483647 : Int32)) % (500 : Int32))) w_REDIRECTION h0 n0 O0 P1 P2) hZ (hw _ (List.mem_of_getElem? (i := 4) rfl)) (hw _ (List.mem_of_getElem? (i := 3) rfl)) (by decide) (by decide)) (g := (mkF m 13 #[.val (.int p1), .val (.int ((100 : Int32) + ((p1 &&& (2147483647 : Int32)) % (500 : Int32)))), .unset, .unset] [(.int ((100 : Int32) + ((p1 &&& (2147483647 : Int32)) % (500 : Int32))))])) rfl (by rw [hml]; rfl) (argsL := [(.int ((100 : Int32) + ((p1 &&& (2147483647 : Int32)) % (500 : Int32))))]) (rest := []) (lenOf pd_2 rfl) rfl (by show 2 * 0 + _ ≤ _; exact Nat.le_of_eq rfl) (hb hby at_13) (fun _ _ => ⟨rfl, e0, (by decide : 0 + 0 ≤ _), (by decide : 0 + 0 ≤ _)⟩)
  dsimp only [Pt.U, Pt.locs, Pt.cells, Pt.slots] at X1 l1 y1 z1 st1 hQ1
  subst l1 y1 z1
  obtain ⟨rfl, N1q, e1⟩ := hQ1
  have N1 := Fr.app N0 N1q
  obtain ⟨T2, X2, e2, st2⟩ := getS2 X1 hx hZ hown (host := "") (Or.inl (hw _ (List.mem_of_getElem? (i := 16) rfl))) Via.refl e1 (P2.ext O0.2) (g := (mkF m 52 #[.val (.int p1), .val (.int ((100 : Int32) + ((p1 &&& (2147483647 : Int32)) % (500 : Int32)))), .val (.ref w_REDIRECTION), .unset] [])) rfl (hb hby at_52)
  obtain ⟨fs, hr, hrun, hended, hW, hsame⟩ := X2.leave (v := some (.int (1 : Int32))) (fun h => by rw [Bd.returns] at h; cases h)
  refine ⟨_, _, pre0 _ ?_, hrun, hended, _, _, rfl, ?_, ⟨_, rfl⟩, hW, hsame.mono (by decide) (by decide)⟩
  · show Steps p.tables e below (s₁.setTop (mkF m 0 #[.val (.int p1), .unset, .unset, .unset] [])) _
    refine XS.bipush X0.here hx rfl (hb hby at_0) ?_
    show Steps p.tables e below (s₁.setTop (mkF m 2 #[.val (.int p1), .unset, .unset, .unset] [(.int (100 : Int32))])) _
    refine XS.iloadN X0.here hx rfl (hb hby at_2) rfl ?_
    show Steps p.tables e below (s₁.setTop (mkF m 3 #[.val (.int p1), .unset, .unset, .unset] [(.int p1), (.int (100 : Int32))])) _
    refine X0.ldcInt hx hown (mvT hZ (hw _ (List.mem_of_getElem? (i := 0) rfl))) (g := (mkF m 3 #[.val (.int p1), .unset, .unset, .unset] [(.int p1), (.int (100 : Int32))])) rfl (hb hby at_3) _ ?_
    show Steps p.tables e below (s₁.setTop (mkF m 5 #[.val (.int p1), .unset, .unset, .unset] [(.int (2147483647 : Int32)), (.int p1), (.int (100 : Int32))])) _
    refine XS.iand X0.here hx rfl (hb hby at_5) rfl ?_
    show Steps p.tables e below (s₁.setTop (mkF m 6 #[.val (.int p1), .unset, .unset, .unset] [(.int (p1 &&& (2147483647 : Int32))), (.int (100 : Int32))])) _
    refine XS.sipush X0.here hx rfl (hb hby at_6) ?_
    show Steps p.tables e below (s₁.setTop (mkF m 9 #[.val (.int p1), .unset, .unset, .unset] [(.int (500 : Int32)), (.int (p1 &&& (2147483647 : Int32))), (.int (100 : Int32))])) _
    refine iremM (g := (mkF m 9 #[.val (.int p1), .unset, .unset, .unset] [(.int (500 : Int32)), (.int (p1 &&& (2147483647 : Int32))), (.int (100 : Int32))])) X0 hx rfl (hb hby at_9) rfl (by decide) ?_
    show Steps p.tables e below (s₁.setTop (mkF m 10 #[.val (.int p1), .unset, .unset, .unset] [(.int ((p1 &&& (2147483647 : Int32)) % (500 : Int32))), (.int (100 : Int32))])) _
    refine XS.iadd X0.here hx rfl (hb hby at_10) rfl ?_
    show Steps p.tables e below (s₁.setTop (mkF m 11 #[.val (.int p1), .unset, .unset, .unset] [(.int ((100 : Int32) + ((p1 &&& (2147483647 : Int32)) % (500 : Int32))))])) _
    refine XS.istoreN X0.here hx rfl (hb hby at_11) rfl (l' := #[.val (.int p1), .val (.int ((100 : Int32) + ((p1 &&& (2147483647 : Int32)) % (500 : Int32)))), .unset, .unset]) rfl ?_
    show Steps p.tables e below (s₁.setTop (mkF m 12 #[.val (.int p1), .val (.int ((100 : Int32) + ((p1 &&& (2147483647 : Int32)) % (500 : Int32)))), .unset, .unset] [])) _
    refine XS.iloadN X0.here hx rfl (hb hby at_12) rfl ?_
    show Steps p.tables e below (s₁.setTop (mkF m 13 #[.val (.int p1), .val (.int ((100 : Int32) + ((p1 &&& (2147483647 : Int32)) % (500 : Int32)))), .unset, .unset] [(.int ((100 : Int32) + ((p1 &&& (2147483647 : Int32)) % (500 : Int32))))])) _
    refine st1 _ ?_
    show Steps p.tables e below (T1.setTop (mkF m 16 #[.val (.int p1), .val (.int ((100 : Int32) + ((p1 &&& (2147483647 : Int32)) % (500 : Int32)))), .unset, .unset] [(.ref w_REDIRECTION)])) _
    refine XS.astoreN X1.here hx rfl (hb hby at_16) rfl rfl (l' := #[.val (.int p1), .val (.int ((100 : Int32) + ((p1 &&& (2147483647 : Int32)) % (500 : Int32)))), .val (.ref w_REDIRECTION), .unset]) rfl ?_
    show Steps p.tables e below (T1.setTop (mkF m 17 #[.val (.int p1), .val (.int ((100 : Int32) + ((p1 &&& (2147483647 : Int32)) % (500 : Int32)))), .val (.ref w_REDIRECTION), .unset] [])) _
    refine XS.iloadN X1.here hx rfl (hb hby at_17) rfl ?_
    show Steps p.tables e below (T1.setTop (mkF m 18 #[.val (.int p1), .val (.int ((100 : Int32) + ((p1 &&& (2147483647 : Int32)) % (500 : Int32)))), .val (.ref w_REDIRECTION), .unset] [(.int ((100 : Int32) + ((p1 &&& (2147483647 : Int32)) % (500 : Int32))))])) _
    refine XS.sipush X1.here hx rfl (hb hby at_18) ?_
    show Steps p.tables e below (T1.setTop (mkF m 21 #[.val (.int p1), .val (.int ((100 : Int32) + ((p1 &&& (2147483647 : Int32)) % (500 : Int32)))), .val (.ref w_REDIRECTION), .unset] [(.int (199 : Int32)), (.int ((100 : Int32) + ((p1 &&& (2147483647 : Int32)) % (500 : Int32))))])) _
    refine XS.icmpYes X1.here hx rfl (pc0 := 21) (pc' := 31) rfl (hb hby at_21) rfl (tlt P3).2.2.1 (by decide) (by decide) ?_
    show Steps p.tables e below (T1.setTop (mkF m 31 #[.val (.int p1), .val (.int ((100 : Int32) + ((p1 &&& (2147483647 : Int32)) % (500 : Int32)))), .val (.ref w_REDIRECTION), .unset] [])) _
    refine XS.iloadN X1.here hx rfl (hb hby at_31) rfl ?_
    show Steps p.tables e below (T1.setTop (mkF m 32 #[.val (.int p1), .val (.int ((100 : Int32) + ((p1 &&& (2147483647 : Int32)) % (500 : Int32)))), .val (.ref w_REDIRECTION), .unset] [(.int ((100 : Int32) + ((p1 &&& (2147483647 : Int32)) % (500 : Int32))))])) _
    refine XS.sipush X1.here hx rfl (hb hby at_32) ?_
    show Steps p.tables e below (T1.setTop (mkF m 35 #[.val (.int p1), .val (.int ((100 : Int32) + ((p1 &&& (2147483647 : Int32)) % (500 : Int32)))), .val (.ref w_REDIRECTION), .unset] [(.int (299 : Int32)), (.int ((100 : Int32) + ((p1 &&& (2147483647 : Int32)) % (500 : Int32))))])) _
    refine XS.icmpYes X1.here hx rfl (pc0 := 35) (pc' := 45) rfl (hb hby at_35) rfl (tlt P4).2.2.1 (by decide) (by decide) ?_
    show Steps p.tables e below (T1.setTop (mkF m 45 #[.val (.int p1), .val (.int ((100 : Int32) + ((p1 &&& (2147483647 : Int32)) % (500 : Int32)))), .val (.ref w_REDIRECTION), .unset] [])) _
    refine XS.iloadN X1.here hx rfl (hb hby at_45) rfl ?_
    show Steps p.tables e below (T1.setTop (mkF m 46 #[.val (.int p1), .val (.int ((100 : Int32) + ((p1 &&& (2147483647 : Int32)) % (500 : Int32)))), .val (.ref w_REDIRECTION), .unset] [(.int ((100 : Int32) + ((p1 &&& (2147483647 : Int32)) % (500 : Int32))))])) _
    refine XS.sipush X1.here hx rfl (hb hby at_46) ?_
    show Steps p.tables e below (T1.setTop (mkF m 49 #[.val (.int p1), .val (.int ((100 : Int32) + ((p1 &&& (2147483647 : Int32)) % (500 : Int32)))), .val (.ref w_REDIRECTION), .unset] [(.int (399 : Int32)), (.int ((100 : Int32) + ((p1 &&& (2147483647 : Int32)) % (500 : Int32))))])) _
    refine XS.icmpNo X1.here hx rfl (hb hby at_49) rfl (flt P5).2.2.1 ?_
    show Steps p.tables e below (T1.setTop (mkF m 52 #[.val (.int p1), .val (.int ((100 : Int32) + ((p1 &&& (2147483647 : Int32)) % (500 : Int32)))), .val (.ref w_REDIRECTION), .unset] [])) _
    refine st2 _ ?_
    show Steps p.tables e below (T2.setTop (mkF m 55 #[.val (.int p1), .val (.int ((100 : Int32) + ((p1 &&& (2147483647 : Int32)) % (500 : Int32)))), .val (.ref w_REDIRECTION), .unset] [(.ref w_REDIRECTION)])) _
    refine XS.astoreN X2.here hx rfl (hb hby at_55) rfl rfl (l' := #[.val (.int p1), .val (.int ((100 : Int32) + ((p1 &&& (2147483647 : Int32)) % (500 : Int32)))), .val (.ref w_REDIRECTION), .val (.ref w_REDIRECTION)]) rfl ?_
    show Steps p.tables e below (T2.setTop (mkF m 56 #[.val (.int p1), .val (.int ((100 : Int32) + ((p1 &&& (2147483647 : Int32)) % (500 : Int32)))), .val (.ref w_REDIRECTION), .val (.ref w_REDIRECTION)] [])) _
    refine XS.goto X2.here hx rfl (pc0 := 56) (pc' := 77) rfl (hb hby at_56) (by decide) (by decide) ?_
    show Steps p.tables e below (T2.setTop (mkF m 77 #[.val (.int p1), .val (.int ((100 : Int32) + ((p1 &&& (2147483647 : Int32)) % (500 : Int32)))), .val (.ref w_REDIRECTION), .val (.ref w_REDIRECTION)] [])) _
    refine XS.aloadN X2.here hx rfl (hb hby at_77) rfl rfl ?_
    show Steps p.tables e below (T2.setTop (mkF m 78 #[.val (.int p1), .val (.int ((100 : Int32) + ((p1 &&& (2147483647 : Int32)) % (500 : Int32)))), .val (.ref w_REDIRECTION), .val (.ref w_REDIRECTION)] [(.ref w_REDIRECTION)])) _
    refine XS.aloadN X2.here hx rfl (hb hby at_78) rfl rfl ?_
    show Steps p.tables e below (T2.setTop (mkF m 79 #[.val (.int p1), .val (.int ((100 : Int32) + ((p1 &&& (2147483647 : Int32)) % (500 : Int32)))), .val (.ref w_REDIRECTION), .val (.ref w_REDIRECTION)] [(.ref w_REDIRECTION), (.ref w_REDIRECTION)])) _
    refine Jvm.RoadKit.acmp (g := (mkF m 79 #[.val (.int p1), .val (.int ((100 : Int32) + ((p1 &&& (2147483647 : Int32)) % (500 : Int32)))), .val (.ref w_REDIRECTION), .val (.ref w_REDIRECTION)] [(.ref w_REDIRECTION), (.ref w_REDIRECTION)])) X2 hx rfl rfl rfl (pc0 := 79) (pc' := 82) (same := true) rfl (hb hby at_79) rfl (decide_eq_true rfl) (by decide) (by decide) ?_
    show Steps p.tables e below (T2.setTop (mkF m 82 #[.val (.int p1), .val (.int ((100 : Int32) + ((p1 &&& (2147483647 : Int32)) % (500 : Int32)))), .val (.ref w_REDIRECTION), .val (.ref w_REDIRECTION)] [])) _
    refine XS.iconst X2.here hx rfl (hb hby at_82) ?_
    show Steps p.tables e below (T2.setTop (mkF m 83 #[.val (.int p1), .val (.int ((100 : Int32) + ((p1 &&& (2147483647 : Int32)) % (500 : Int32)))), .val (.ref w_REDIRECTION), .val (.ref w_REDIRECTION)] [(.int (1 : Int32))])) _
    refine XS.goto X2.here hx rfl (pc0 := 83) (pc' := 87) rfl (hb hby at_83) (by decide) (by decide) ?_
    show Steps p.tables e below (T2.setTop (mkF m 87 #[.val (.int p1), .val (.int ((100 : Int32) + ((p1 &&& (2147483647 : Int32)) % (500 : Int32)))), .val (.ref w_REDIRECTION), .val (.ref w_REDIRECTION)] [(.int (1 : Int32))])) _
    exact retN X2 hx (t := .boolean) Bd.returns (by simp) (hb hby at_87) hr
  · show own_Q1 n0 _ T2.heap _
    rw [e2]
    exact ⟨rfl, N1⟩
set_option maxRecDepth 65536 in
set_option maxHeartbeats 40000000 in
theorem rm1_3 (l : Launch) (Z : State) (a0 : Array Value) (hw : ∀ d ∈ tables_1, d.before a0 Z = true) (p1 : Int32) (w_CLIENT_ERROR : Addr) (h0 : Heap) (n0 : Nat) (O0 : Old Z n0 h0) (P1 : (p1 / (100 : Int32)) = (4 : Int32)) (P2 : Sta Z Z.heap "com/example/calm_current/calmcurrent/http/HttpStatus$Series" "CLIENT_ERROR" "Lcom/example/calm_current/calmcurrent/http/HttpStatus$Series;" (.ref w_CLIENT_ERROR)) :
    MetFree l (⟨"com/example/calm_current/calmcurrent/http/HttpStatus$Series", "of", "(I)Lcom/example/calm_current/calmcurrent/http/HttpStatus$Series;"⟩ : MethodName) (head1 [Jvm.Cond.code (⟨"com/example/calm_current/calmcurrent/http/HttpStatus$Series", "of", "(I)Lcom/example/calm_current/calmcurrent/http/HttpStatus$Series;"⟩ : MethodName) prog_15_method_4_code 1 (some (.object "com/example/calm_current/calmcurrent/http/HttpStatus$Series"))] ({ frames := 0, cells := 0, slots := 0, locals := 0 } : Room)) (fun a U => a = #[(.int p1)] ∧ Z.Warmed39 U.vm ∧ U.heap = h0) (fun _ _ _ _ _ => True) (fun _ U o U' => ∃ v L, o = .returned v ∧ own_QP (some (.ref w_CLIENT_ERROR)) n0 h0 v U'.heap L ∧ FrameEnd U o U' L ({ frames := 0, cells := 0, slots := 0, locals := 0 } : Room).cells ({ frames := 0, cells := 0, slots := 0, locals := 0 } : Room).slots) := by
  refine MetFree.of_bodySF (plainFor_of_name pn_0) hisR ?_
  intro p e s m args below meth c s₁ Bd hml0 hP hK
  obtain ⟨rfl, hZ, hh⟩ := hP
  have hx := Bd.exec
  have hby := Bd.bytes
  have hml : c.maxLocals = 1 := hml0
  have hown : s.vm.findClass "com/example/calm_current/calmcurrent/http/HttpStatus$Series" = some m.cls := findClass_of_methodNamed Bd.named
  have hnm := (name_of_methodNamed Bd.named Bd.method).1
  have X0 : Stand p l e ({ frames := 0, cells := 0, slots := 0, locals := 0 } : Room) s m #[(.int p1)] below meth c s₁ [] 0 0 := Stand.of_body Bd
  have e0 : s₁.heap = h0 := by rw [← hh, Bd.state]; rfl
  have N0 := Fr.nil n0
  have pre0 : ∀ t, Steps p.tables e below (s₁.setTop (mkF m 0 #[.val (.int p1)] [])) t → Steps p.tables e below (s₁.setTop (entryFrame m #[(.int p1)] 1)) t := fun t k => castTop (ef_1_I m p1) k
  obtain ⟨T1, X1, e1, st1⟩ := getS2 X0 hx hZ hown (host := "") (Or.inl (hw _ (List.mem_of_getElem? (i := 11) rfl))) Via.refl e0 (P2.ext O0.2) (g := (mkF m 58 #[.val (.int p1)] [])) rfl (hb hby d1_58)
  obtain ⟨fs, hr, hrun, hended, hW, hsame⟩ := X1.leave (v := (some (.ref w_CLIENT_ERROR))) (fun h => by rw [Bd.returns] at h; cases h)
  refine ⟨_, _, pre0 _ ?_, hrun, hended, _, _, rfl, ?_, ⟨_, rfl⟩, hW, hsame.mono (by decide) (by decide)⟩
  · show Steps p.tables e below (s₁.setTop (mkF m 0 #[.val (.int p1)] [])) _
    refine XS.iloadN X0.here hx rfl (hb hby d1_0) rfl ?_
    show Steps p.tables e below (s₁.setTop (mkF m 1 #[.val (.int p1)] [(.int p1)])) _
    refine XS.bipush X0.here hx rfl (hb hby d1_1) ?_
    show Steps p.tables e below (s₁.setTop (mkF m 3 #[.val (.int p1)] [(.int (100 : Int32)), (.int p1)])) _
    refine XS.idiv X0.here hx rfl (hb hby d1_3) rfl (by decide) ?_
    show Steps p.tables e below (s₁.setTop (mkF m 4 #[.val (.int p1)] [(.int (p1 / (100 : Int32)))])) _
    rw [P1]
    show Steps p.tables e below (s₁.setTop (mkF m 4 #[.val (.int p1)] [(.int (4 : Int32))])) _
    refine XS.tswIn X0.here hx rfl (pc0 := 4) (pc' := 58) rfl (hb hby d1_4) rfl (by decide) (o := 54) (by decide) (by decide) (by decide) ?_
    show Steps p.tables e below (s₁.setTop (mkF m 58 #[.val (.int p1)] [])) _
    refine st1 _ ?_
    show Steps p.tables e below (T1.setTop (mkF m 61 #[.val (.int p1)] [(.ref w_CLIENT_ERROR)])) _
    refine XS.goto X1.here hx rfl (pc0 := 61) (pc' := 84) rfl (hb hby d1_61) (by decide) (by decide) ?_
    show Steps p.tables e below (T1.setTop (mkF m 84 #[.val (.int p1)] [(.ref w_CLIENT_ERROR)])) _
    exact retA X1 hx Bd.returns rfl rfl rfl (hb hby d1_84) hr
  · show own_QP (some (.ref w_CLIENT_ERROR)) n0 h0 _ T1.heap _
    rw [e1]
    exact ⟨rfl, N0, rfl⟩
set_option maxRecDepth 65536 in
set_option maxHeartbeats 40000000 in
theorem law_3 (l : Launch) (Z : State) (a0 : Array Value) (hw : ∀ d ∈ tables_1, d.before a0 Z = true) (ws : List Jvm.Cond) (p1 : Int32) (w_CLIENT_ERROR : Addr) (h0 : Heap) (n0 : Nat) (O0 : Old Z n0 h0) (P1 : (((100 : Int32) + ((p1 &&& (2147483647 : Int32)) % (500 : Int32))) / (100 : Int32)) = (4 : Int32)) (P2 : Sta Z Z.heap "com/example/calm_current/calmcurrent/http/HttpStatus$Series" "CLIENT_ERROR" "Lcom/example/calm_current/calmcurrent/http/HttpStatus$Series;" (.ref w_CLIENT_ERROR)) (P3 : (199 : Int32) < ((100 : Int32) + ((p1 &&& (2147483647 : Int32)) % (500 : Int32)))) (P4 : (299 : Int32) < ((100 : Int32) + ((p1 &&& (2147483647 : Int32)) % (500 : Int32)))) (P5 : (399 : Int32) < ((100 : Int32) + ((p1 &&& (2147483647 : Int32)) % (500 : Int32)))) (P6 : ¬ ((499 : Int32) < ((100 : Int32) + ((p1 &&& (2147483647 : Int32)) % (500 : Int32))))) :
    MetFree l x (head1 (Jvm.Cond.code x code maxLocals ret :: ws) room_1) (fun a U => a = #[(.int p1)] ∧ Z.Warmed39 U.vm ∧ U.heap = h0) (fun _ _ _ _ _ => True) (fun _ U o U' => ∃ v L, o = .returned v ∧ own_Q1 n0 v U'.heap L ∧ FrameEnd U o U' L room_1.cells room_1.slots) := by
  refine MetFree.of_bodySF (plainFor_of_name pn_3) hisR ?_
  intro p e s m args below meth c s₁ Bd hml0 hP hK
  obtain ⟨rfl, hZ, hh⟩ := hP
  have hx := Bd.exec
  have hby := Bd.bytes
  have hml : c.maxLocals = 4 := hml0
  have hown : s.vm.findClass "com/example/calm_current/calmcurrent/http/SeriesOfPinLaw" = some m.cls := findClass_of_methodNamed Bd.named
  have hnm := (name_of_methodNamed Bd.named Bd.method).1
  have X0 : Stand p l e room_1 s m #[(.int p1)] below meth c s₁ [] 0 0 := Stand.of_body Bd
  have e0 : s₁.heap = h0 := by rw [← hh, Bd.state]; rfl
  have N0 := Fr.nil n0
  have pre0 : ∀ t, Steps p.tables e below (s₁.setTop (mkF m 0 #[.val (.int p1), .unset, .unset, .unset] [])) t → Steps p.tables e below (s₁.setTop (entryFrame m #[(.int p1)] maxLocals)) t := fun t k => castTop (ef_0_I m p1) k
  obtain ⟨_, _, ⟨T1, L1, k1, n1⟩, -, X1, ⟨Lc1, hQ1, l1, y1, z1⟩, st1⟩ := Jvm.LawKit.callS X0 hx (y := (⟨"com/example/calm_current/calmcurrent/http/HttpStatus$Series", "of", "(I)Lcom/example/calm_current/calmcurrent/http/HttpStatus$Series;"⟩ : MethodName)) hown (mvT hZ (hw _ (List.mem_of_getElem? (i := 1) rfl))) (mvT hZ (hw _ (List.mem_of_getElem? (i := 2) rfl))) (mvT hZ (hw _ (List.mem_of_getElem? (i := 3) rfl))) (mvT hZ (hw _ (List.mem_of_getElem? (i := 4) rfl))) (by decide) (backOf (W := 0) (rm1_3 l Z a0 hw ((100 : Int32) + ((p1 &&& (2147483647 : Int32)) % (500 : Int32))) w_CLIENT_ERROR h0 n0 O0 P1 P2) hZ (hw _ (List.mem_of_getElem? (i := 4) rfl)) (hw _ (List.mem_of_getElem? (i := 3) rfl)) (by decide) (by decide)) (g := (mkF m 13 #[.val (.int p1), .val (.int ((100 : Int32) + ((p1 &&& (2147483647 : Int32)) % (500 : Int32)))), .unset, .unset] [(.int ((100 : Int32) + ((p1 &&& (2147483647 : Int32)) % (500 : Int32))))])) rfl (by rw [hml]; rfl) (argsL := [(.int ((100 : Int32) + ((p1 &&& (2147483647 : Int32)) % (500 : Int32))))]) (rest := []) (lenOf pd_2 rfl) rfl (by show 2 * 0 + _ ≤ _; exact Nat.le_of_eq rfl) (hb hby at_13) (fun _ _ => ⟨rfl, e0, (by decide : 0 + 0 ≤ _), (by decide : 0 + 0 ≤ _)⟩)
  dsimp only [Pt.U, Pt.locs, Pt.cells, Pt.slots] at X1 l1 y1 z1 st1 hQ1
  subst l1 y1 z1
  obtain ⟨rfl, N1q, e1⟩ := hQ1
  have N1 := Fr.app N0 N1q
  obtain ⟨T2, X2, e2, st2⟩ := getS2 X1 hx hZ hown (host := "") (Or.inl (hw _ (List.mem_of_getElem? (i := 13) rfl))) Via.refl e1 (P2.ext O0.2) (g := (mkF m 66 #[.val (.int p1), .val (.int ((100 : Int32) + ((p1 &&& (2147483647 : Int32)) % (500 : Int32)))), .val (.ref w_CLIENT_ERROR), .unset] [])) rfl (hb hby at_66)
  obtain ⟨fs, hr, hrun, hended, hW, hsame⟩ := X2.leave (v := some (.int (1 : Int32))) (fun h => by rw [Bd.returns] at h; cases h)
  refine ⟨_, _, pre0 _ ?_, hrun, hended, _, _, rfl, ?_, ⟨_, rfl⟩, hW, hsame.mono (by decide) (by decide)⟩
  · show Steps p.tables e below (s₁.setTop (mkF m 0 #[.val (.int p1), .unset, .unset, .unset] [])) _
    refine XS.bipush X0.here hx rfl (hb hby at_0) ?_
    show Steps p.tables e below (s₁.setTop (mkF m 2 #[.val (.int p1), .unset, .unset, .unset] [(.int (100 : Int32))])) _
    refine XS.iloadN X0.here hx rfl (hb hby at_2) rfl ?_
    show Steps p.tables e below (s₁.setTop (mkF m 3 #[.val (.int p1), .unset, .unset, .unset] [(.int p1), (.int (100 : Int32))])) _
    refine X0.ldcInt hx hown (mvT hZ (hw _ (List.mem_of_getElem? (i := 0) rfl))) (g := (mkF m 3 #[.val (.int p1), .unset, .unset, .unset] [(.int p1), (.int (100 : Int32))])) rfl (hb hby at_3) _ ?_
    show Steps p.tables e below (s₁.setTop (mkF m 5 #[.val (.int p1), .unset, .unset, .unset] [(.int (2147483647 : Int32)), (.int p1), (.int (100 : Int32))])) _
    refine XS.iand X0.here hx rfl (hb hby at_5) rfl ?_
    show Steps p.tables e below (s₁.setTop (mkF m 6 #[.val (.int p1), .unset, .unset, .unset] [(.int (p1 &&& (2147483647 : Int32))), (.int (100 : Int32))])) _
    refine XS.sipush X0.here hx rfl (hb hby at_6) ?_
    show Steps p.tables e below (s₁.setTop (mkF m 9 #[.val (.int p1), .unset, .unset, .unset] [(.int (500 : Int32)), (.int (p1 &&& (2147483647 : Int32))), (.int (100 : Int32))])) _
    refine iremM (g := (mkF m 9 #[.val (.int p1), .unset, .unset, .unset] [(.int (500 : Int32)), (.int (p1 &&& (2147483647 : Int32))), (.int (100 : Int32))])) X0 hx rfl (hb hby at_9) rfl (by decide) ?_
    show Steps p.tables e below (s₁.setTop (mkF m 10 #[.val (.int p1), .unset, .unset, .unset] [(.int ((p1 &&& (2147483647 : Int32)) % (500 : Int32))), (.int (100 : Int32))])) _
    refine XS.iadd X0.here hx rfl (hb hby at_10) rfl ?_
    show Steps p.tables e below (s₁.setTop (mkF m 11 #[.val (.int p1), .unset, .unset, .unset] [(.int ((100 : Int32) + ((p1 &&& (2147483647 : Int32)) % (500 : Int32))))])) _
    refine XS.istoreN X0.here hx rfl (hb hby at_11) rfl (l' := #[.val (.int p1), .val (.int ((100 : Int32) + ((p1 &&& (2147483647 : Int32)) % (500 : Int32)))), .unset, .unset]) rfl ?_
    show Steps p.tables e below (s₁.setTop (mkF m 12 #[.val (.int p1), .val (.int ((100 : Int32) + ((p1 &&& (2147483647 : Int32)) % (500 : Int32)))), .unset, .unset] [])) _
    refine XS.iloadN X0.here hx rfl (hb hby at_12) rfl ?_
    show Steps p.tables e below (s₁.setTop (mkF m 13 #[.val (.int p1), .val (.int ((100 : Int32) + ((p1 &&& (2147483647 : Int32)) % (500 : Int32)))), .unset, .unset] [(.int ((100 : Int32) + ((p1 &&& (2147483647 : Int32)) % (500 : Int32))))])) _
    refine st1 _ ?_
    show Steps p.tables e below (T1.setTop (mkF m 16 #[.val (.int p1), .val (.int ((100 : Int32) + ((p1 &&& (2147483647 : Int32)) % (500 : Int32)))), .unset, .unset] [(.ref w_CLIENT_ERROR)])) _
    refine XS.astoreN X1.here hx rfl (hb hby at_16) rfl rfl (l' := #[.val (.int p1), .val (.int ((100 : Int32) + ((p1 &&& (2147483647 : Int32)) % (500 : Int32)))), .val (.ref w_CLIENT_ERROR), .unset]) rfl ?_
    show Steps p.tables e below (T1.setTop (mkF m 17 #[.val (.int p1), .val (.int ((100 : Int32) + ((p1 &&& (2147483647 : Int32)) % (500 : Int32)))), .val (.ref w_CLIENT_ERROR), .unset] [])) _
    refine XS.iloadN X1.here hx rfl (hb hby at_17) rfl ?_
    show Steps p.tables e below (T1.setTop (mkF m 18 #[.val (.int p1), .val (.int ((100 : Int32) + ((p1 &&& (2147483647 : Int32)) % (500 : Int32)))), .val (.ref w_CLIENT_ERROR), .unset] [(.int ((100 : Int32) + ((p1 &&& (2147483647 : Int32)) % (500 : Int32))))])) _
    refine XS.sipush X1.here hx rfl (hb hby at_18) ?_
    show Steps p.tables e below (T1.setTop (mkF m 21 #[.val (.int p1), .val (.int ((100 : Int32) + ((p1 &&& (2147483647 : Int32)) % (500 : Int32)))), .val (.ref w_CLIENT_ERROR), .unset] [(.int (199 : Int32)), (.int ((100 : Int32) + ((p1 &&& (2147483647 : Int32)) % (500 : Int32))))])) _
    refine XS.icmpYes X1.here hx rfl (pc0 := 21) (pc' := 31) rfl (hb hby at_21) rfl (tlt P3).2.2.1 (by decide) (by decide) ?_
    show Steps p.tables e below (T1.setTop (mkF m 31 #[.val (.int p1), .val (.int ((100 : Int32) + ((p1 &&& (2147483647 : Int32)) % (500 : Int32)))), .val (.ref w_CLIENT_ERROR), .unset] [])) _
    refine XS.iloadN X1.here hx rfl (hb hby at_31) rfl ?_
    show Steps p.tables e below (T1.setTop (mkF m 32 #[.val (.int p1), .val (.int ((100 : Int32) + ((p1 &&& (2147483647 : Int32)) % (500 : Int32)))), .val (.ref w_CLIENT_ERROR), .unset] [(.int ((100 : Int32) + ((p1 &&& (2147483647 : Int32)) % (500 : Int32))))])) _
    refine XS.sipush X1.here hx rfl (hb hby at_32) ?_
    show Steps p.tables e below (T1.setTop (mkF m 35 #[.val (.int p1), .val (.int ((100 : Int32) + ((p1 &&& (2147483647 : Int32)) % (500 : Int32)))), .val (.ref w_CLIENT_ERROR), .unset] [(.int (299 : Int32)), (.int ((100 : Int32) + ((p1 &&& (2147483647 : Int32)) % (500 : Int32))))])) _
    refine XS.icmpYes X1.here hx rfl (pc0 := 35) (pc' := 45) rfl (hb hby at_35) rfl (tlt P4).2.2.1 (by decide) (by decide) ?_
    show Steps p.tables e below (T1.setTop (mkF m 45 #[.val (.int p1), .val (.int ((100 : Int32) + ((p1 &&& (2147483647 : Int32)) % (500 : Int32)))), .val (.ref w_CLIENT_ERROR), .unset] [])) _
    refine XS.iloadN X1.here hx rfl (hb hby at_45) rfl ?_
    show Steps p.tables e below (T1.setTop (mkF m 46 #[.val (.int p1), .val (.int ((100 : Int32) + ((p1 &&& (2147483647 : Int32)) % (500 : Int32)))), .val (.ref w_CLIENT_ERROR), .unset] [(.int ((100 : Int32) + ((p1 &&& (2147483647 : Int32)) % (500 : Int32))))])) _
    refine XS.sipush X1.here hx rfl (hb hby at_46) ?_
    show Steps p.tables e below (T1.setTop (mkF m 49 #[.val (.int p1), .val (.int ((100 : Int32) + ((p1 &&& (2147483647 : Int32)) % (500 : Int32)))), .val (.ref w_CLIENT_ERROR), .unset] [(.int (399 : Int32)), (.int ((100 : Int32) + ((p1 &&& (2147483647 : Int32)) % (500 : Int32))))])) _
    refine XS.icmpYes X1.here hx rfl (pc0 := 49) (pc' := 59) rfl (hb hby at_49) rfl (tlt P5).2.2.1 (by decide) (by decide) ?_
    show Steps p.tables e below (T1.setTop (mkF m 59 #[.val (.int p1), .val (.int ((100 : Int32) + ((p1 &&& (2147483647 : Int32)) % (500 : Int32)))), .val (.ref w_CLIENT_ERROR), .unset] [])) _
    refine XS.iloadN X1.here hx rfl (hb hby at_59) rfl ?_
    show Steps p.tables e below (T1.setTop (mkF m 60 #[.val (.int p1), .val (.int ((100 : Int32) + ((p1 &&& (2147483647 : Int32)) % (500 : Int32)))), .val (.ref w_CLIENT_ERROR), .unset] [(.int ((100 : Int32) + ((p1 &&& (2147483647 : Int32)) % (500 : Int32))))])) _
    refine XS.sipush X1.here hx rfl (hb hby at_60) ?_
    show Steps p.tables e below (T1.setTop (mkF m 63 #[.val (.int p1), .val (.int ((100 : Int32) + ((p1 &&& (2147483647 : Int32)) % (500 : Int32)))), .val (.ref w_CLIENT_ERROR), .unset] [(.int (499 : Int32)), (.int ((100 : Int32) + ((p1 &&& (2147483647 : Int32)) % (500 : Int32))))])) _
    refine XS.icmpNo X1.here hx rfl (hb hby at_63) rfl (flt P6).2.2.1 ?_
    show Steps p.tables e below (T1.setTop (mkF m 66 #[.val (.int p1), .val (.int ((100 : Int32) + ((p1 &&& (2147483647 : Int32)) % (500 : Int32)))), .val (.ref w_CLIENT_ERROR), .unset] [])) _
    refine st2 _ ?_
    show Steps p.tables e below (T2.setTop (mkF m 69 #[.val (.int p1), .val (.int ((100 : Int32) + ((p1 &&& (2147483647 : Int32)) % (500 : Int32)))), .val (.ref w_CLIENT_ERROR), .unset] [(.ref w_CLIENT_ERROR)])) _
    refine XS.astoreN X2.here hx rfl (hb hby at_69) rfl rfl (l' := #[.val (.int p1), .val (.int ((100 : Int32) + ((p1 &&& (2147483647 : Int32)) % (500 : Int32)))), .val (.ref w_CLIENT_ERROR), .val (.ref w_CLIENT_ERROR)]) rfl ?_
    show Steps p.tables e below (T2.setTop (mkF m 70 #[.val (.int p1), .val (.int ((100 : Int32) + ((p1 &&& (2147483647 : Int32)) % (500 : Int32)))), .val (.ref w_CLIENT_ERROR), .val (.ref w_CLIENT_ERROR)] [])) _
    refine XS.goto X2.here hx rfl (pc0 := 70) (pc' := 77) rfl (hb hby at_70) (by decide) (by decide) ?_
    show Steps p.tables e below (T2.setTop (mkF m 77 #[.val (.int p1), .val (.int ((100 : Int32) + ((p1 &&& (2147483647 : Int32)) % (500 : Int32)))), .val (.ref w_CLIENT_ERROR), .val (.ref w_CLIENT_ERROR)] [])) _
    refine XS.aloadN X2.here hx rfl (hb hby at_77) rfl rfl ?_
    show Steps p.tables e below (T2.setTop (mkF m 78 #[.val (.int p1), .val (.int ((100 : Int32) + ((p1 &&& (2147483647 : Int32)) % (500 : Int32)))), .val (.ref w_CLIENT_ERROR), .val (.ref w_CLIENT_ERROR)] [(.ref w_CLIENT_ERROR)])) _
    refine XS.aloadN X2.here hx rfl (hb hby at_78) rfl rfl ?_
    show Steps p.tables e below (T2.setTop (mkF m 79 #[.val (.int p1), .val (.int ((100 : Int32) + ((p1 &&& (2147483647 : Int32)) % (500 : Int32)))), .val (.ref w_CLIENT_ERROR), .val (.ref w_CLIENT_ERROR)] [(.ref w_CLIENT_ERROR), (.ref w_CLIENT_ERROR)])) _
    refine Jvm.RoadKit.acmp (g := (mkF m 79 #[.val (.int p1), .val (.int ((100 : Int32) + ((p1 &&& (2147483647 : Int32)) % (500 : Int32)))), .val (.ref w_CLIENT_ERROR), .val (.ref w_CLIENT_ERROR)] [(.ref w_CLIENT_ERROR), (.ref w_CLIENT_ERROR)])) X2 hx rfl rfl rfl (pc0 := 79) (pc' := 82) (same := true) rfl (hb hby at_79) rfl (decide_eq_true rfl) (by decide) (by decide) ?_
    show Steps p.tables e below (T2.setTop (mkF m 82 #[.val (.int p1), .val (.int ((100 : Int32) + ((p1 &&& (2147483647 : Int32)) % (500 : Int32)))), .val (.ref w_CLIENT_ERROR), .val (.ref w_CLIENT_ERROR)] [])) _
    refine XS.iconst X2.here hx rfl (hb hby at_82) ?_
    show Steps p.tables e below (T2.setTop (mkF m 83 #[.val (.int p1), .val (.int ((100 : Int32) + ((p1 &&& (2147483647 : Int32)) % (500 : Int32)))), .val (.ref w_CLIENT_ERROR), .val (.ref w_CLIENT_ERROR)] [(.int (1 : Int32))])) _
    refine XS.goto X2.here hx rfl (pc0 := 83) (pc' := 87) rfl (hb hby at_83) (by decide) (by decide) ?_
    show Steps p.tables e below (T2.setTop (mkF m 87 #[.val (.int p1), .val (.int ((100 : Int32) + ((p1 &&& (2147483647 : Int32)) % (500 : Int32)))), .val (.ref w_CLIENT_ERROR), .val (.ref w_CLIENT_ERROR)] [(.int (1 : Int32))])) _
    exact retN X2 hx (t := .boolean) Bd.returns (by simp) (hb hby at_87) hr
  · show own_Q1 n0 _ T2.heap _
    rw [e2]
    exact ⟨rfl, N1⟩
set_option maxRecDepth 65536 in
set_option maxHeartbeats 40000000 in
theorem rm1_4 (l : Launch) (Z : State) (a0 : Array Value) (hw : ∀ d ∈ tables_1, d.before a0 Z = true) (p1 : Int32) (w_SERVER_ERROR : Addr) (h0 : Heap) (n0 : Nat) (O0 : Old Z n0 h0) (P1 : (p1 / (100 : Int32)) = (5 : Int32)) (P2 : Sta Z Z.heap "com/example/calm_current/calmcurrent/http/HttpStatus$Series" "SERVER_ERROR" "Lcom/example/calm_current/calmcurrent/http/HttpStatus$Series;" (.ref w_SERVER_ERROR)) :
    MetFree l (⟨"com/example/calm_current/calmcurrent/http/HttpStatus$Series", "of", "(I)Lcom/example/calm_current/calmcurrent/http/HttpStatus$Series;"⟩ : MethodName) (head1 [Jvm.Cond.code (⟨"com/example/calm_current/calmcurrent/http/HttpStatus$Series", "of", "(I)Lcom/example/calm_current/calmcurrent/http/HttpStatus$Series;"⟩ : MethodName) prog_15_method_4_code 1 (some (.object "com/example/calm_current/calmcurrent/http/HttpStatus$Series"))] ({ frames := 0, cells := 0, slots := 0, locals := 0 } : Room)) (fun a U => a = #[(.int p1)] ∧ Z.Warmed39 U.vm ∧ U.heap = h0) (fun _ _ _ _ _ => True) (fun _ U o U' => ∃ v L, o = .returned v ∧ own_QP (some (.ref w_SERVER_ERROR)) n0 h0 v U'.heap L ∧ FrameEnd U o U' L ({ frames := 0, cells := 0, slots := 0, locals := 0 } : Room).cells ({ frames := 0, cells := 0, slots := 0, locals := 0 } : Room).slots) := by
  refine MetFree.of_bodySF (plainFor_of_name pn_0) hisR ?_
  intro p e s m args below meth c s₁ Bd hml0 hP hK
  obtain ⟨rfl, hZ, hh⟩ := hP
  have hx := Bd.exec
  have hby := Bd.bytes
  have hml : c.maxLocals = 1 := hml0
  have hown : s.vm.findClass "com/example/calm_current/calmcurrent/http/HttpStatus$Series" = some m.cls := findClass_of_methodNamed Bd.named
  have hnm := (name_of_methodNamed Bd.named Bd.method).1
  have X0 : Stand p l e ({ frames := 0, cells := 0, slots := 0, locals := 0 } : Room) s m #[(.int p1)] below meth c s₁ [] 0 0 := Stand.of_body Bd
  have e0 : s₁.heap = h0 := by rw [← hh, Bd.state]; rfl
  have N0 := Fr.nil n0
  have pre0 : ∀ t, Steps p.tables e below (s₁.setTop (mkF m 0 #[.val (.int p1)] [])) t → Steps p.tables e below (s₁.setTop (entryFrame m #[(.int p1)] 1)) t := fun t k => castTop (ef_1_I m p1) k
  obtain ⟨T1, X1, e1, st1⟩ := getS2 X0 hx hZ hown (host := "") (Or.inl (hw _ (List.mem_of_getElem? (i := 17) rfl))) Via.refl e0 (P2.ext O0.2) (g := (mkF m 64 #[.val (.int p1)] [])) rfl (hb hby d1_64)
  obtain ⟨fs, hr, hrun, hended, hW, hsame⟩ := X1.leave (v := (some (.ref w_SERVER_ERROR))) (fun h => by rw [Bd.returns] at h; cases h)
  refine ⟨_, _, pre0 _ ?_, hrun, hended, _, _, rfl, ?_, ⟨_, rfl⟩, hW, hsame.mono (by decide) (by decide)⟩
  · show Steps p.tables e below (s₁.setTop (mkF m 0 #[.val (.int p1)] [])) _
    refine XS.iloadN X0.here hx rfl (hb hby d1_0) rfl ?_
    show Steps p.tables e below (s₁.setTop (mkF m 1 #[.val (.int p1)] [(.int p1)])) _
    refine XS.bipush X0.here hx rfl (hb hby d1_1) ?_
    show Steps p.tables e below (s₁.setTop (mkF m 3 #[.val (.int p1)] [(.int (100 : Int32)), (.int p1)])) _
    refine XS.idiv X0.here hx rfl (hb hby d1_3) rfl (by decide) ?_
    show Steps p.tables e below (s₁.setTop (mkF m 4 #[.val (.int p1)] [(.int (p1 / (100 : Int32)))])) _
    rw [P1]
    show Steps p.tables e below (s₁.setTop (mkF m 4 #[.val (.int p1)] [(.int (5 : Int32))])) _
    refine XS.tswIn X0.here hx rfl (pc0 := 4) (pc' := 64) rfl (hb hby d1_4) rfl (by decide) (o := 60) (by decide) (by decide) (by decide) ?_
    show Steps p.tables e below (s₁.setTop (mkF m 64 #[.val (.int p1)] [])) _
    refine st1 _ ?_
    show Steps p.tables e below (T1.setTop (mkF m 67 #[.val (.int p1)] [(.ref w_SERVER_ERROR)])) _
    refine XS.goto X1.here hx rfl (pc0 := 67) (pc' := 84) rfl (hb hby d1_67) (by decide) (by decide) ?_
    show Steps p.tables e below (T1.setTop (mkF m 84 #[.val (.int p1)] [(.ref w_SERVER_ERROR)])) _
    exact retA X1 hx Bd.returns rfl rfl rfl (hb hby d1_84) hr
  · show own_QP (some (.ref w_SERVER_ERROR)) n0 h0 _ T1.heap _
    rw [e1]
    exact ⟨rfl, N0, rfl⟩
set_option maxRecDepth 65536 in
set_option maxHeartbeats 40000000 in
theorem law_4 (l : Launch) (Z : State) (a0 : Array Value) (hw : ∀ d ∈ tables_1, d.before a0 Z = true) (ws : List Jvm.Cond) (p1 : Int32) (w_SERVER_ERROR : Addr) (h0 : Heap) (n0 : Nat) (O0 : Old Z n0 h0) (P1 : (((100 : Int32) + ((p1 &&& (2147483647 : Int32)) % (500 : Int32))) / (100 : Int32)) = (5 : Int32)) (P2 : Sta Z Z.heap "com/example/calm_current/calmcurrent/http/HttpStatus$Series" "SERVER_ERROR" "Lcom/example/calm_current/calmcurrent/http/HttpStatus$Series;" (.ref w_SERVER_ERROR)) (P3 : (199 : Int32) < ((100 : Int32) + ((p1 &&& (2147483647 : Int32)) % (500 : Int32)))) (P4 : (299 : Int32) < ((100 : Int32) + ((p1 &&& (2147483647 : Int32)) % (500 : Int32)))) (P5 : (399 : Int32) < ((100 : Int32) + ((p1 &&& (2147483647 : Int32)) % (500 : Int32)))) (P6 : (499 : Int32) < ((100 : Int32) + ((p1 &&& (2147483647 : Int32)) % (500 : Int32)))) :
    MetFree l x (head1 (Jvm.Cond.code x code maxLocals ret :: ws) room_1) (fun a U => a = #[(.int p1)] ∧ Z.Warmed39 U.vm ∧ U.heap = h0) (fun _ _ _ _ _ => True) (fun _ U o U' => ∃ v L, o = .returned v ∧ own_Q1 n0 v U'.heap L ∧ FrameEnd U o U' L room_1.cells room_1.slots) := by
  refine MetFree.of_bodySF (plainFor_of_name pn_3) hisR ?_
  intro p e s m args below meth c s₁ Bd hml0 hP hK
  obtain ⟨rfl, hZ, hh⟩ := hP
  have hx := Bd.exec
  have hby := Bd.bytes
  have hml : c.maxLocals = 4 := hml0
  have hown : s.vm.findClass "com/example/calm_current/calmcurrent/http/SeriesOfPinLaw" = some m.cls := findClass_of_methodNamed Bd.named
  have hnm := (name_of_methodNamed Bd.named Bd.method).1
  have X0 : Stand p l e room_1 s m #[(.int p1)] below meth c s₁ [] 0 0 := Stand.of_body Bd
  have e0 : s₁.heap = h0 := by rw [← hh, Bd.state]; rfl
  have N0 := Fr.nil n0
  have pre0 : ∀ t, Steps p.tables e below (s₁.setTop (mkF m 0 #[.val (.int p1), .unset, .unset, .unset] [])) t → Steps p.tables e below (s₁.setTop (entryFrame m #[(.int p1)] maxLocals)) t := fun t k => castTop (ef_0_I m p1) k
  obtain ⟨_, _, ⟨T1, L1, k1, n1⟩, -, X1, ⟨Lc1, hQ1, l1, y1, z1⟩, st1⟩ := Jvm.LawKit.callS X0 hx (y := (⟨"com/example/calm_current/calmcurrent/http/HttpStatus$Series", "of", "(I)Lcom/example/calm_current/calmcurrent/http/HttpStatus$Series;"⟩ : MethodName)) hown (mvT hZ (hw _ (List.mem_of_getElem? (i := 1) rfl))) (mvT hZ (hw _ (List.mem_of_getElem? (i := 2) rfl))) (mvT hZ (hw _ (List.mem_of_getElem? (i := 3) rfl))) (mvT hZ (hw _ (List.mem_of_getElem? (i := 4) rfl))) (by decide) (backOf (W := 0) (rm1_4 l Z a0 hw ((100 : Int32) + ((p1 &&& (2147483647 : Int32)) % (500 : Int32))) w_SERVER_ERROR h0 n0 O0 P1 P2) hZ (hw _ (List.mem_of_getElem? (i := 4) rfl)) (hw _ (List.mem_of_getElem? (i := 3) rfl)) (by decide) (by decide)) (g := (mkF m 13 #[.val (.int p1), .val (.int ((100 : Int32) + ((p1 &&& (2147483647 : Int32)) % (500 : Int32)))), .unset, .unset] [(.int ((100 : Int32) + ((p1 &&& (2147483647 : Int32)) % (500 : Int32))))])) rfl (by rw [hml]; rfl) (argsL := [(.int ((100 : Int32) + ((p1 &&& (2147483647 : Int32)) % (500 : Int32))))]) (rest := []) (lenOf pd_2 rfl) rfl (by show 2 * 0 + _ ≤ _; exact Nat.le_of_eq rfl) (hb hby at_13) (fun _ _ => ⟨rfl, e0, (by decide : 0 + 0 ≤ _), (by decide : 0 + 0 ≤ _)⟩)
  dsimp only [Pt.U, Pt.locs, Pt.cells, Pt.slots] at X1 l1 y1 z1 st1 hQ1
  subst l1 y1 z1
  obtain ⟨rfl, N1q, e1⟩ := hQ1
  have N1 := Fr.app N0 N1q
  obtain ⟨T2, X2, e2, st2⟩ := getS2 X1 hx hZ hown (host := "") (Or.inl (hw _ (List.mem_of_getElem? (i := 19) rfl))) Via.refl e1 (P2.ext O0.2) (g := (mkF m 73 #[.val (.int p1), .val (.int ((100 : Int32) + ((p1 &&& (2147483647 : Int32)) % (500 : Int32)))), .val (.ref w_SERVER_ERROR), .unset] [])) rfl (hb hby at_73)
  obtain ⟨fs, hr, hrun, hended, hW, hsame⟩ := X2.leave (v := some (.int (1 : Int32))) (fun h => by rw [Bd.returns] at h; cases h)
  refine ⟨_, _, pre0 _ ?_, hrun, hended, _, _, rfl, ?_, ⟨_, rfl⟩, hW, hsame.mono (by decide) (by decide)⟩
  · show Steps p.tables e below (s₁.setTop (mkF m 0 #[.val (.int p1), .unset, .unset, .unset] [])) _
    refine XS.bipush X0.here hx rfl (hb hby at_0) ?_
    show Steps p.tables e below (s₁.setTop (mkF m 2 #[.val (.int p1), .unset, .unset, .unset] [(.int (100 : Int32))])) _
    refine XS.iloadN X0.here hx rfl (hb hby at_2) rfl ?_
    show Steps p.tables e below (s₁.setTop (mkF m 3 #[.val (.int p1), .unset, .unset, .unset] [(.int p1), (.int (100 : Int32))])) _
    refine X0.ldcInt hx hown (mvT hZ (hw _ (List.mem_of_getElem? (i := 0) rfl))) (g := (mkF m 3 #[.val (.int p1), .unset, .unset, .unset] [(.int p1), (.int (100 : Int32))])) rfl (hb hby at_3) _ ?_
    show Steps p.tables e below (s₁.setTop (mkF m 5 #[.val (.int p1), .unset, .unset, .unset] [(.int (2147483647 : Int32)), (.int p1), (.int (100 : Int32))])) _
    refine XS.iand X0.here hx rfl (hb hby at_5) rfl ?_
    show Steps p.tables e below (s₁.setTop (mkF m 6 #[.val (.int p1), .unset, .unset, .unset] [(.int (p1 &&& (2147483647 : Int32))), (.int (100 : Int32))])) _
    refine XS.sipush X0.here hx rfl (hb hby at_6) ?_
    show Steps p.tables e below (s₁.setTop (mkF m 9 #[.val (.int p1), .unset, .unset, .unset] [(.int (500 : Int32)), (.int (p1 &&& (2147483647 : Int32))), (.int (100 : Int32))])) _
    refine iremM (g := (mkF m 9 #[.val (.int p1), .unset, .unset, .unset] [(.int (500 : Int32)), (.int (p1 &&& (2147483647 : Int32))), (.int (100 : Int32))])) X0 hx rfl (hb hby at_9) rfl (by decide) ?_
    show Steps p.tables e below (s₁.setTop (mkF m 10 #[.val (.int p1), .unset, .unset, .unset] [(.int ((p1 &&& (2147483647 : Int32)) % (500 : Int32))), (.int (100 : Int32))])) _
    refine XS.iadd X0.here hx rfl (hb hby at_10) rfl ?_
    show Steps p.tables e below (s₁.setTop (mkF m 11 #[.val (.int p1), .unset, .unset, .unset] [(.int ((100 : Int32) + ((p1 &&& (2147483647 : Int32)) % (500 : Int32))))])) _
    refine XS.istoreN X0.here hx rfl (hb hby at_11) rfl (l' := #[.val (.int p1), .val (.int ((100 : Int32) + ((p1 &&& (2147483647 : Int32)) % (500 : Int32)))), .unset, .unset]) rfl ?_
    show Steps p.tables e below (s₁.setTop (mkF m 12 #[.val (.int p1), .val (.int ((100 : Int32) + ((p1 &&& (2147483647 : Int32)) % (500 : Int32)))), .unset, .unset] [])) _
    refine XS.iloadN X0.here hx rfl (hb hby at_12) rfl ?_
    show Steps p.tables e below (s₁.setTop (mkF m 13 #[.val (.int p1), .val (.int ((100 : Int32) + ((p1 &&& (2147483647 : Int32)) % (500 : Int32)))), .unset, .unset] [(.int ((100 : Int32) + ((p1 &&& (2147483647 : Int32)) % (500 : Int32))))])) _
    refine st1 _ ?_
    show Steps p.tables e below (T1.setTop (mkF m 16 #[.val (.int p1), .val (.int ((100 : Int32) + ((p1 &&& (2147483647 : Int32)) % (500 : Int32)))), .unset, .unset] [(.ref w_SERVER_ERROR)])) _
    refine XS.astoreN X1.here hx rfl (hb hby at_16) rfl rfl (l' := #[.val (.int p1), .val (.int ((100 : Int32) + ((p1 &&& (2147483647 : Int32)) % (500 : Int32)))), .val (.ref w_SERVER_ERROR), .unset]) rfl ?_
    show Steps p.tables e below (T1.setTop (mkF m 17 #[.val (.int p1), .val (.int ((100 : Int32) + ((p1 &&& (2147483647 : Int32)) % (500 : Int32)))), .val (.ref w_SERVER_ERROR), .unset] [])) _
    refine XS.iloadN X1.here hx rfl (hb hby at_17) rfl ?_
    show Steps p.tables e below (T1.setTop (mkF m 18 #[.val (.int p1), .val (.int ((100 : Int32) + ((p1 &&& (2147483647 : Int32)) % (500 : Int32)))), .val (.ref w_SERVER_ERROR), .unset] [(.int ((100 : Int32) + ((p1 &&& (2147483647 : Int32)) % (500 : Int32))))])) _
    refine XS.sipush X1.here hx rfl (hb hby at_18) ?_
    show Steps p.tables e below (T1.setTop (mkF m 21 #[.val (.int p1), .val (.int ((100 : Int32) + ((p1 &&& (2147483647 : Int32)) % (500 : Int32)))), .val (.ref w_SERVER_ERROR), .unset] [(.int (199 : Int32)), (.int ((100 : Int32) + ((p1 &&& (2147483647 : Int32)) % (500 : Int32))))])) _
    refine XS.icmpYes X1.here hx rfl (pc0 := 21) (pc' := 31) rfl (hb hby at_21) rfl (tlt P3).2.2.1 (by decide) (by decide) ?_
    show Steps p.tables e below (T1.setTop (mkF m 31 #[.val (.int p1), .val (.int ((100 : Int32) + ((p1 &&& (2147483647 : Int32)) % (500 : Int32)))), .val (.ref w_SERVER_ERROR), .unset] [])) _
    refine XS.iloadN X1.here hx rfl (hb hby at_31) rfl ?_
    show Steps p.tables e below (T1.setTop (mkF m 32 #[.val (.int p1), .val (.int ((100 : Int32) + ((p1 &&& (2147483647 : Int32)) % (500 : Int32)))), .val (.ref w_SERVER_ERROR), .unset] [(.int ((100 : Int32) + ((p1 &&& (2147483647 : Int32)) % (500 : Int32))))])) _
    refine XS.sipush X1.here hx rfl (hb hby at_32) ?_
    show Steps p.tables e below (T1.setTop (mkF m 35 #[.val (.int p1), .val (.int ((100 : Int32) + ((p1 &&& (2147483647 : Int32)) % (500 : Int32)))), .val (.ref w_SERVER_ERROR), .unset] [(.int (299 : Int32)), (.int ((100 : Int32) + ((p1 &&& (2147483647 : Int32)) % (500 : Int32))))])) _
    refine XS.icmpYes X1.here hx rfl (pc0 := 35) (pc' := 45) rfl (hb hby at_35) rfl (tlt P4).2.2.1 (by decide) (by decide) ?_
    show Steps p.tables e below (T1.setTop (mkF m 45 #[.val (.int p1), .val (.int ((100 : Int32) + ((p1 &&& (2147483647 : Int32)) % (500 : Int32)))), .val (.ref w_SERVER_ERROR), .unset] [])) _
    refine XS.iloadN X1.here hx rfl (hb hby at_45) rfl ?_
    show Steps p.tables e below (T1.setTop (mkF m 46 #[.val (.int p1), .val (.int ((100 : Int32) + ((p1 &&& (2147483647 : Int32)) % (500 : Int32)))), .val (.ref w_SERVER_ERROR), .unset] [(.int ((100 : Int32) + ((p1 &&& (2147483647 : Int32)) % (500 : Int32))))])) _
    refine XS.sipush X1.here hx rfl (hb hby at_46) ?_
    show Steps p.tables e below (T1.setTop (mkF m 49 #[.val (.int p1), .val (.int ((100 : Int32) + ((p1 &&& (2147483647 : Int32)) % (500 : Int32)))), .val (.ref w_SERVER_ERROR), .unset] [(.int (399 : Int32)), (.int ((100 : Int32) + ((p1 &&& (2147483647 : Int32)) % (500 : Int32))))])) _
    refine XS.icmpYes X1.here hx rfl (pc0 := 49) (pc' := 59) rfl (hb hby at_49) rfl (tlt P5).2.2.1 (by decide) (by decide) ?_
    show Steps p.tables e below (T1.setTop (mkF m 59 #[.val (.int p1), .val (.int ((100 : Int32) + ((p1 &&& (2147483647 : Int32)) % (500 : Int32)))), .val (.ref w_SERVER_ERROR), .unset] [])) _
    refine XS.iloadN X1.here hx rfl (hb hby at_59) rfl ?_
    show Steps p.tables e below (T1.setTop (mkF m 60 #[.val (.int p1), .val (.int ((100 : Int32) + ((p1 &&& (2147483647 : Int32)) % (500 : Int32)))), .val (.ref w_SERVER_ERROR), .unset] [(.int ((100 : Int32) + ((p1 &&& (2147483647 : Int32)) % (500 : Int32))))])) _
    refine XS.sipush X1.here hx rfl (hb hby at_60) ?_
    show Steps p.tables e below (T1.setTop (mkF m 63 #[.val (.int p1), .val (.int ((100 : Int32) + ((p1 &&& (2147483647 : Int32)) % (500 : Int32)))), .val (.ref w_SERVER_ERROR), .unset] [(.int (499 : Int32)), (.int ((100 : Int32) + ((p1 &&& (2147483647 : Int32)) % (500 : Int32))))])) _
    refine XS.icmpYes X1.here hx rfl (pc0 := 63) (pc' := 73) rfl (hb hby at_63) rfl (tlt P6).2.2.1 (by decide) (by decide) ?_
    show Steps p.tables e below (T1.setTop (mkF m 73 #[.val (.int p1), .val (.int ((100 : Int32) + ((p1 &&& (2147483647 : Int32)) % (500 : Int32)))), .val (.ref w_SERVER_ERROR), .unset] [])) _
    refine st2 _ ?_
    show Steps p.tables e below (T2.setTop (mkF m 76 #[.val (.int p1), .val (.int ((100 : Int32) + ((p1 &&& (2147483647 : Int32)) % (500 : Int32)))), .val (.ref w_SERVER_ERROR), .unset] [(.ref w_SERVER_ERROR)])) _
    refine XS.astoreN X2.here hx rfl (hb hby at_76) rfl rfl (l' := #[.val (.int p1), .val (.int ((100 : Int32) + ((p1 &&& (2147483647 : Int32)) % (500 : Int32)))), .val (.ref w_SERVER_ERROR), .val (.ref w_SERVER_ERROR)]) rfl ?_
    show Steps p.tables e below (T2.setTop (mkF m 77 #[.val (.int p1), .val (.int ((100 : Int32) + ((p1 &&& (2147483647 : Int32)) % (500 : Int32)))), .val (.ref w_SERVER_ERROR), .val (.ref w_SERVER_ERROR)] [])) _
    refine XS.aloadN X2.here hx rfl (hb hby at_77) rfl rfl ?_
    show Steps p.tables e below (T2.setTop (mkF m 78 #[.val (.int p1), .val (.int ((100 : Int32) + ((p1 &&& (2147483647 : Int32)) % (500 : Int32)))), .val (.ref w_SERVER_ERROR), .val (.ref w_SERVER_ERROR)] [(.ref w_SERVER_ERROR)])) _
    refine XS.aloadN X2.here hx rfl (hb hby at_78) rfl rfl ?_
    show Steps p.tables e below (T2.setTop (mkF m 79 #[.val (.int p1), .val (.int ((100 : Int32) + ((p1 &&& (2147483647 : Int32)) % (500 : Int32)))), .val (.ref w_SERVER_ERROR), .val (.ref w_SERVER_ERROR)] [(.ref w_SERVER_ERROR), (.ref w_SERVER_ERROR)])) _
    refine Jvm.RoadKit.acmp (g := (mkF m 79 #[.val (.int p1), .val (.int ((100 : Int32) + ((p1 &&& (2147483647 : Int32)) % (500 : Int32)))), .val (.ref w_SERVER_ERROR), .val (.ref w_SERVER_ERROR)] [(.ref w_SERVER_ERROR), (.ref w_SERVER_ERROR)])) X2 hx rfl rfl rfl (pc0 := 79) (pc' := 82) (same := true) rfl (hb hby at_79) rfl (decide_eq_true rfl) (by decide) (by decide) ?_
    show Steps p.tables e below (T2.setTop (mkF m 82 #[.val (.int p1), .val (.int ((100 : Int32) + ((p1 &&& (2147483647 : Int32)) % (500 : Int32)))), .val (.ref w_SERVER_ERROR), .val (.ref w_SERVER_ERROR)] [])) _
    refine XS.iconst X2.here hx rfl (hb hby at_82) ?_
    show Steps p.tables e below (T2.setTop (mkF m 83 #[.val (.int p1), .val (.int ((100 : Int32) + ((p1 &&& (2147483647 : Int32)) % (500 : Int32)))), .val (.ref w_SERVER_ERROR), .val (.ref w_SERVER_ERROR)] [(.int (1 : Int32))])) _
    refine XS.goto X2.here hx rfl (pc0 := 83) (pc' := 87) rfl (hb hby at_83) (by decide) (by decide) ?_
    show Steps p.tables e below (T2.setTop (mkF m 87 #[.val (.int p1), .val (.int ((100 : Int32) + ((p1 &&& (2147483647 : Int32)) % (500 : Int32)))), .val (.ref w_SERVER_ERROR), .val (.ref w_SERVER_ERROR)] [(.int (1 : Int32))])) _
    exact retN X2 hx (t := .boolean) Bd.returns (by simp) (hb hby at_87) hr
  · show own_Q1 n0 _ T2.heap _
    rw [e2]
    exact ⟨rfl, N1⟩
set_option maxRecDepth 65536 in
set_option maxHeartbeats 40000000 in
theorem comes_1 {Post : Tables → Env → Array Value → State → Outcome → State → Prop} (hpost : ∀ tb e args s v u, (limb_1_1.after args s (.returned v) u = true ∧ limb_1_2.after args s (.returned v) u = true ∧ True) → FrameEnd s (.returned v) u (Jvm.fieldLocs frame_1_writes args s ++ Jvm.arrayLocs frame_1_arrays args s ++ Jvm.staticLocs frame_1_statics s) 0 0 → Post tb e args s (.returned v) u) :
    ArmFor flags0 classFile x code maxLocals ret World_1 tables_1 room_1 Calls_1 rest_1 Pre_1 Post := by
  intro l hfl _ _ p e ha hc hk s m args below hf hA hF happ hP
  obtain ⟨hcalls, hrest, hpre⟩ := hP
  obtain ⟨-, -, -, hnamed, -, -, -, hat⟩ := (Spec.applies_iff hf).mp happ
  obtain ⟨hg, hn⟩ := and_e (Cond.before_iff.mp (show (Jvm.Cond.and given_1 narrow_1).before args s = true from hpre))
  obtain ⟨g1, g2⟩ := and_e hg
  obtain ⟨v0, rfl⟩ : ∃ v0 : Value, args = #[v0] := by
    have hs : args.size = 1 := by simpa [Cond.value, given_1] using g1
    obtain ⟨L⟩ := args
    match L, hs with
    | [v0], _ => exact ⟨v0, rfl⟩
  have hw := fun d (hd : d ∈ tables_1) => atoms_spec (ws := Jvm.Cond.code x code maxLocals ret :: tables_1) hat d (List.mem_cons_of_mem _ hd)
  have hfit : Fit s := fun {y c} hc i hi => by
    obtain ⟨ha, rfl⟩ := Array.getElem?_eq_some_iff.mp hc
    have q := List.all_eq_true.mp ((Array.all_eq_true_iff_forall_mem.mp hF) _ (Array.getElem_mem ha)) i (List.mem_range.mpr hi)
    simpa [Array.getElem?_eq_getElem hi] using q
  obtain ⟨p1, ei0⟩ := is_v g2
  obtain rfl : v0 = (.int p1) := Option.some.inj ei0
  obtain ⟨c1, c2⟩ := and_e hn
  obtain ⟨c3, c4⟩ := and_e c2
  obtain ⟨c5, c6⟩ := and_e c4
  obtain ⟨c7, c8⟩ := and_e c6
  obtain ⟨w_INFORMATIONAL, ev_w_INFORMATIONAL⟩ := exa_v c1
  have E_w_INFORMATIONAL := Exa.start ev_w_INFORMATIONAL c1
  have S_w_INFORMATIONAL := Sta.start ev_w_INFORMATIONAL (Or.inr ⟨(hw _ (List.mem_of_getElem? (i := 3) rfl)), (hw _ (List.mem_of_getElem? (i := 6) rfl))⟩)
  obtain ⟨w_SUCCESSFUL, ev_w_SUCCESSFUL⟩ := exa_v c3
  have E_w_SUCCESSFUL := Exa.start ev_w_SUCCESSFUL c3
  have S_w_SUCCESSFUL := Sta.start ev_w_SUCCESSFUL (Or.inr ⟨(hw _ (List.mem_of_getElem? (i := 3) rfl)), (hw _ (List.mem_of_getElem? (i := 9) rfl))⟩)
  obtain ⟨w_CLIENT_ERROR, ev_w_CLIENT_ERROR⟩ := exa_v c5
  have E_w_CLIENT_ERROR := Exa.start ev_w_CLIENT_ERROR c5
  have S_w_CLIENT_ERROR := Sta.start ev_w_CLIENT_ERROR (Or.inr ⟨(hw _ (List.mem_of_getElem? (i := 3) rfl)), (hw _ (List.mem_of_getElem? (i := 12) rfl))⟩)
  obtain ⟨w_REDIRECTION, ev_w_REDIRECTION⟩ := exa_v c7
  have E_w_REDIRECTION := Exa.start ev_w_REDIRECTION c7
  have S_w_REDIRECTION := Sta.start ev_w_REDIRECTION (Or.inr ⟨(hw _ (List.mem_of_getElem? (i := 3) rfl)), (hw _ (List.mem_of_getElem? (i := 15) rfl))⟩)
  obtain ⟨w_SERVER_ERROR, ev_w_SERVER_ERROR⟩ := exa_v c8
  have E_w_SERVER_ERROR := Exa.start ev_w_SERVER_ERROR c8
  have S_w_SERVER_ERROR := Sta.start ev_w_SERVER_ERROR (Or.inr ⟨(hw _ (List.mem_of_getElem? (i := 3) rfl)), (hw _ (List.mem_of_getElem? (i := 18) rfl))⟩)
  have key : MetFree l x (head1 (Jvm.Cond.code x code maxLocals ret :: tables_1) room_1) (fun a U => a = #[(.int p1)] ∧ s.Warmed39 U.vm ∧ U.heap = s.heap) (fun _ _ _ _ _ => True) (fun _ U o U' => ∃ v L, o = .returned v ∧ own_Q1 s.heap.size v U'.heap L ∧ FrameEnd U o U' L room_1.cells room_1.slots) := by
    have hm : (p1 &&& (2147483647 : Int32)).toInt = p1.toInt % 2147483648 := c_mask p1 2147483647 31 (by decide) (by decide)
    have hr : ((p1 &&& (2147483647 : Int32)) % (500 : Int32)).toInt = (p1 &&& (2147483647 : Int32)).toInt % 500 := (c_irem (p1 &&& (2147483647 : Int32)) (500 : Int32) 500 rfl).1 (by omega)
    have hs := c_iadd (100 : Int32) ((p1 &&& (2147483647 : Int32)) % (500 : Int32))
    have z100 : (100 : Int32).toInt = 100 := rfl
    have hcr := rng32 ((100 : Int32) + ((p1 &&& (2147483647 : Int32)) % (500 : Int32)))
    have hd : (((100 : Int32) + ((p1 &&& (2147483647 : Int32)) % (500 : Int32))) / (100 : Int32)).toInt = ((100 : Int32) + ((p1 &&& (2147483647 : Int32)) % (500 : Int32))).toInt / 100 := (c_idiv ((100 : Int32) + ((p1 &&& (2147483647 : Int32)) % (500 : Int32))) (100 : Int32) 100 rfl (by decide)).1 (by omega)
    have hcs : (((100 : Int32) + ((p1 &&& (2147483647 : Int32)) % (500 : Int32))) / (100 : Int32)) = (1 : Int32) ∨ (((100 : Int32) + ((p1 &&& (2147483647 : Int32)) % (500 : Int32))) / (100 : Int32)) = (2 : Int32) ∨ (((100 : Int32) + ((p1 &&& (2147483647 : Int32)) % (500 : Int32))) / (100 : Int32)) = (3 : Int32) ∨ (((100 : Int32) + ((p1 &&& (2147483647 : Int32)) % (500 : Int32))) / (100 : Int32)) = (4 : Int32) ∨ (((100 : Int32) + ((p1 &&& (2147483647 : Int32)) % (500 : Int32))) / (100 : Int32)) = (5 : Int32) := by
      have z1 : (1 : Int32).toInt = 1 := rfl
      have z2 : (2 : Int32).toInt = 2 := rfl
      have z3 : (3 : Int32).toInt = 3 := rfl
      have z4 : (4 : Int32).toInt = 4 := rfl
      have z5 : (5 : Int32).toInt = 5 := rfl
      simp only [← Int32.toInt_inj, z1, z2, z3, z4, z5]
      omega
    rcases hcs with h | h | h | h | h
    · have hk : (((100 : Int32) + ((p1 &&& (2147483647 : Int32)) % (500 : Int32))) / (100 : Int32)).toInt = 1 := by rw [h]; rfl
      exact law_0 l s _ hw tables_1 p1 w_INFORMATIONAL s.heap s.heap.size (Old.start s) h S_w_INFORMATIONAL (by rw [Int32.lt_iff_toInt_lt, show (199 : Int32).toInt = 199 from rfl]; omega)
    · have hk : (((100 : Int32) + ((p1 &&& (2147483647 : Int32)) % (500 : Int32))) / (100 : Int32)).toInt = 2 := by rw [h]; rfl
      exact law_1 l s _ hw tables_1 p1 w_SUCCESSFUL s.heap s.heap.size (Old.start s) h S_w_SUCCESSFUL (by rw [Int32.lt_iff_toInt_lt, show (199 : Int32).toInt = 199 from rfl]; omega) (by rw [Int32.lt_iff_toInt_lt, show (299 : Int32).toInt = 299 from rfl]; omega)
    · have hk : (((100 : Int32) + ((p1 &&& (2147483647 : Int32)) % (500 : Int32))) / (100 : Int32)).toInt = 3 := by rw [h]; rfl
      exact law_2 l s _ hw tables_1 p1 w_REDIRECTION s.heap s.heap.size (Old.start s) h S_w_REDIRECTION (by rw [Int32.lt_iff_toInt_lt, show (199 : Int32).toInt = 199 from rfl]; omega) (by rw [Int32.lt_iff_toInt_lt, show (299 : Int32).toInt = 299 from rfl]; omega) (by rw [Int32.lt_iff_toInt_lt, show (399 : Int32).toInt = 399 from rfl]; omega)
    · have hk : (((100 : Int32) + ((p1 &&& (2147483647 : Int32)) % (500 : Int32))) / (100 : Int32)).toInt = 4 := by rw [h]; rfl
      exact law_3 l s _ hw tables_1 p1 w_CLIENT_ERROR s.heap s.heap.size (Old.start s) h S_w_CLIENT_ERROR (by rw [Int32.lt_iff_toInt_lt, show (199 : Int32).toInt = 199 from rfl]; omega) (by rw [Int32.lt_iff_toInt_lt, show (299 : Int32).toInt = 299 from rfl]; omega) (by rw [Int32.lt_iff_toInt_lt, show (399 : Int32).toInt = 399 from rfl]; omega) (by rw [Int32.lt_iff_toInt_lt, show (499 : Int32).toInt = 499 from rfl]; omega)
    · have hk : (((100 : Int32) + ((p1 &&& (2147483647 : Int32)) % (500 : Int32))) / (100 : Int32)).toInt = 5 := by rw [h]; rfl
      exact law_4 l s _ hw tables_1 p1 w_SERVER_ERROR s.heap s.heap.size (Old.start s) h S_w_SERVER_ERROR (by rw [Int32.lt_iff_toInt_lt, show (199 : Int32).toInt = 199 from rfl]; omega) (by rw [Int32.lt_iff_toInt_lt, show (299 : Int32).toInt = 299 from rfl]; omega) (by rw [Int32.lt_iff_toInt_lt, show (399 : Int32).toInt = 399 from rfl]; omega) (by rw [Int32.lt_iff_toInt_lt, show (499 : Int32).toInt = 499 from rfl]; omega)
  obtain ⟨n, o, h1, h2, h3, _, L, rfl, ⟨rfl, N⟩, hq⟩ := key p e ha hc hk s m _ below hf ((Spec.applies_iff_loose hf).mp happ).1 ⟨rfl, State.Warmed39.refl s, rfl⟩ trivial
  refine ⟨n, _, h1, h2, h3, hpost _ _ _ _ _ _ ⟨Cond.after_iff.mpr rfl, Cond.after_iff.mpr (eq_i res_at (Term.int_eval (1)) rfl), trivial⟩ ⟨hq.1, hq.2.1, (hq.2.2.sift fun y hy => Or.inr (N y hy)).mono (by decide) (by decide)⟩⟩
theorem main_1_1 : Claimed_1_1 := comes_1 fun _ _ _ _ _ _ h hF => ⟨h.1, hF⟩
theorem main_1_2 : Claimed_1_2 := comes_1 fun _ _ _ _ _ _ h hF => ⟨h.2.1, hF⟩
end Jvm.Pilot.@@N@@
namespace Jvm.Pilot.@@N@@
open Jvm Jvm.ClassFile Sem Op Lib Jvm.Free Jvm.Stand Jvm.Pilot.@@N@@.Jvm.D
/-! MADE BY PROGRAM (witnessworld.py) out of the Statement's table words and the real class files: 10 classes; the members and pool entries that the words name. The judged class is class 1, her method 1. -/
namespace start1
open Jvm.ClassFile
def u (s : String) : CpInfo := .utf8 (stringToUtf16 s)
/-- a pool by its gaps: so many unusable entries, then the entry; so many at the end -/
def gap : Nat → List CpInfo → List CpInfo
  | 0, r => r
  | n + 1, r => .unusable :: gap n r
def poolList (es : List (Nat × CpInfo)) (last : Nat) : List CpInfo := es.foldr (fun e r => gap e.1 (e.2 :: r)) (gap last [])
def pool (es : List (Nat × CpInfo)) (last : Nat) : Array CpInfo := ⟨poolList es last⟩
def fileOf (pool : Array CpInfo) (this : Nat) (attrs : Array Attribute := #[]) (ms : Array MethodInfo := #[]) (fl : Nat := 33) (sup : Nat := 0) (ifs : Array Nat := #[]) (fds : Array FieldInfo := #[]) : ClassFile where
  minorVersion := 0
  majorVersion := 65
  constantPool := pool
  accessFlags := fl
  thisClass := this
  superClass := sup
  interfaces := ifs
  fields := fds
  methods := ms
  attributes := attrs
def plain (name : String) (sup : Option ClassId) : Class where
  name := name
  kind := .ordinary
  loader := none
  accessFlags := 33
  super := sup
  interfaces := #[]
  cf := none
  fields := #[]
  methods := #[]
  instanceTypes := #[]
  staticTypes := #[]
  resolved := #[]
  callSites := []
  init := .initialized
  statics := none
  mirror := none

def pool0 : Array CpInfo := pool [(5, u "<init>"), (0, u "()V"), (1, .class_ 10), (1, u "java/lang/Object")] 113

def k0m0 : Method := { name := "<init>", desc := "()V", sig := { parameters := [], returnType := none }, accessFlags := 1, code := none }
/-- java/lang/Object -/
def k0 : Class := { plain "java/lang/Object" none with
  accessFlags := 33
  interfaces := #[]
  cf := some (fileOf pool0 8 #[] #[{ accessFlags := 1, nameIndex := 5, descriptorIndex := 6, attributes := #[] }] 33 0 #[] #[])
  fields := #[]
  methods := #[k0m0]
  instanceTypes := #[]
  staticTypes := #[]
  resolved := Array.replicate 124 none
  statics := none }

def pool1 : Array CpInfo := pool [(2, .class_ 4), (1, u "java/lang/Object"), (0, u "<init>"), (0, u "()V"), (0, .integer 2147483647), (0, .methodref 9 10), (0, .class_ 11), (0, .nameAndType 12 13), (0, u "com/example/calm_current/calmcurrent/http/HttpStatus$Series"), (0, u "of"), (0, u "(I)Lcom/example/calm_current/calmcurrent/http/HttpStatus$Series;"), (0, .fieldref 9 15), (0, .nameAndType 16 17), (0, u "INFORMATIONAL"), (0, u "Lcom/example/calm_current/calmcurrent/http/HttpStatus$Series;"), (0, .fieldref 9 19), (0, .nameAndType 20 17), (0, u "SUCCESSFUL"), (0, .fieldref 9 22), (0, .nameAndType 23 17), (0, u "REDIRECTION"), (0, .fieldref 9 25), (0, .nameAndType 26 17), (0, u "CLIENT_ERROR"), (0, .fieldref 9 28), (0, .nameAndType 29 17), (0, u "SERVER_ERROR"), (0, .class_ 31), (0, u "com/example/calm_current/calmcurrent/http/SeriesOfPinLaw"), (2, u "law"), (0, u "(I)Z")] 7

def k1m0 : Method := { name := "<init>", desc := "()V", sig := { parameters := [], returnType := none }, accessFlags := 1, code := none }
def k1c1 : Code := { maxStack := 3, maxLocals := 4, code := code, exceptionTable := #[], attributes := #[] }
def k1m1 : Method := { name := "law", desc := "(I)Z", sig := { parameters := [.int], returnType := some .boolean }, accessFlags := 9, code := some k1c1 }
/-- com/example/calm_current/calmcurrent/http/SeriesOfPinLaw -/
def k1 : Class := { plain "com/example/calm_current/calmcurrent/http/SeriesOfPinLaw" (some 0) with
  accessFlags := 49
  interfaces := #[]
  cf := some (fileOf pool1 30 #[] #[{ accessFlags := 1, nameIndex := 5, descriptorIndex := 6, attributes := #[] }, { accessFlags := 9, nameIndex := 34, descriptorIndex := 35, attributes := #[] }] 49 2 #[] #[])
  fields := #[]
  methods := #[k1m0, k1m1]
  instanceTypes := #[]
  staticTypes := #[]
  resolved := Array.replicate 43 none
  statics := none }

def pool2 : Array CpInfo := pool [(1, .class_ 2), (0, u "java/lang/constant/Constable"), (0, .class_ 4), (0, u "java/lang/Object")] 6

/-- java/lang/constant/Constable -/
def k2 : Class := { plain "java/lang/constant/Constable" (some 0) with
  accessFlags := 1537
  interfaces := #[]
  cf := some (fileOf pool2 1 #[] #[] 1537 3 #[] #[])
  fields := #[]
  methods := #[]
  instanceTypes := #[]
  staticTypes := #[]
  resolved := Array.replicate 11 none
  statics := none }

def pool3 : Array CpInfo := pool [(1, .class_ 2), (0, u "java/lang/Comparable"), (0, .class_ 4), (0, u "java/lang/Object")] 7

/-- java/lang/Comparable -/
def k3 : Class := { plain "java/lang/Comparable" (some 0) with
  accessFlags := 1537
  interfaces := #[]
  cf := some (fileOf pool3 1 #[] #[] 1537 3 #[] #[])
  fields := #[]
  methods := #[]
  instanceTypes := #[]
  staticTypes := #[]
  resolved := Array.replicate 12 none
  statics := none }

def pool4 : Array CpInfo := pool [(1, .class_ 2), (0, u "java/io/Serializable"), (0, .class_ 4), (0, u "java/lang/Object")] 2

/-- java/io/Serializable -/
def k4 : Class := { plain "java/io/Serializable" (some 0) with
  accessFlags := 1537
  interfaces := #[]
  cf := some (fileOf pool4 1 #[] #[] 1537 3 #[] #[])
  fields := #[]
  methods := #[]
  instanceTypes := #[]
  staticTypes := #[]
  resolved := Array.replicate 7 none
  statics := none }

def pool5 : Array CpInfo := pool [(2, .class_ 4), (1, u "java/lang/Enum"), (0, u "name"), (0, u "Ljava/lang/String;"), (2, u "ordinal"), (0, u "I"), (1, .class_ 14), (1, u "java/lang/Object"), (4, u "hash"), (86, .class_ 108), (1, u "java/lang/Enum$EnumDesc"), (2, .class_ 112), (0, u "java/lang/constant/Constable"), (0, .class_ 114), (0, u "java/lang/Comparable"), (0, .class_ 116), (0, u "java/io/Serializable")] 87

/-- java/lang/Enum -/
def k5 : Class := { plain "java/lang/Enum" (some 0) with
  accessFlags := 1057
  interfaces := #[2, 3, 4]
  cf := some (fileOf pool5 2 #[.nestMembers #[106]] #[] 1057 12 #[111, 113, 115] #[{ accessFlags := 18, nameIndex := 5, descriptorIndex := 6, attributes := #[] }, { accessFlags := 18, nameIndex := 9, descriptorIndex := 10, attributes := #[] }, { accessFlags := 2, nameIndex := 19, descriptorIndex := 10, attributes := #[] }])
  fields := #[{ name := "name", type := (.object "java/lang/String"), accessFlags := 18, slot := 0, constantValue := 0 }, { name := "ordinal", type := .int, accessFlags := 18, slot := 1, constantValue := 0 }, { name := "hash", type := .int, accessFlags := 2, slot := 2, constantValue := 0 }]
  methods := #[]
  instanceTypes := #[(.object "java/lang/String"), .int, .int]
  staticTypes := #[]
  resolved := Array.replicate 204 none
  statics := none }

def pool6 : Array CpInfo := pool [(1, .class_ 2), (0, u "com/example/calm_current/calmcurrent/http/HttpStatus$Series"), (0, .fieldref 1 4), (0, .nameAndType 5 6), (0, u "INFORMATIONAL"), (0, u "Lcom/example/calm_current/calmcurrent/http/HttpStatus$Series;"), (0, .fieldref 1 8), (0, .nameAndType 9 6), (0, u "SUCCESSFUL"), (0, .fieldref 1 11), (0, .nameAndType 12 6), (0, u "REDIRECTION"), (0, .fieldref 1 14), (0, .nameAndType 15 6), (0, u "CLIENT_ERROR"), (0, .fieldref 1 17), (0, .nameAndType 18 6), (0, u "SERVER_ERROR"), (2, u "$VALUES"), (0, u "[Lcom/example/calm_current/calmcurrent/http/HttpStatus$Series;"), (6, .class_ 31), (1, u "java/lang/Enum"), (32, u "of"), (0, u "(I)Lcom/example/calm_current/calmcurrent/http/HttpStatus$Series;"), (6, .class_ 73), (0, u "com/example/calm_current/calmcurrent/http/HttpStatus")] 16

def k6c0 : Code := { maxStack := 3, maxLocals := 1, code := prog_15_method_4_code, exceptionTable := #[], attributes := #[] }
def k6m0 : Method := { name := "of", desc := "(I)Lcom/example/calm_current/calmcurrent/http/HttpStatus$Series;", sig := { parameters := [.int], returnType := some (.object "com/example/calm_current/calmcurrent/http/HttpStatus$Series") }, accessFlags := 9, code := some k6c0 }
/-- com/example/calm_current/calmcurrent/http/HttpStatus$Series -/
def k6 : Class := { plain "com/example/calm_current/calmcurrent/http/HttpStatus$Series" (some 5) with
  accessFlags := 16433
  interfaces := #[]
  cf := some (fileOf pool6 1 #[.nestHost 72] #[{ accessFlags := 9, nameIndex := 64, descriptorIndex := 65, attributes := #[] }] 16433 29 #[] #[{ accessFlags := 16409, nameIndex := 5, descriptorIndex := 6, attributes := #[] }, { accessFlags := 16409, nameIndex := 9, descriptorIndex := 6, attributes := #[] }, { accessFlags := 16409, nameIndex := 12, descriptorIndex := 6, attributes := #[] }, { accessFlags := 16409, nameIndex := 15, descriptorIndex := 6, attributes := #[] }, { accessFlags := 16409, nameIndex := 18, descriptorIndex := 6, attributes := #[] }, { accessFlags := 4122, nameIndex := 21, descriptorIndex := 22, attributes := #[] }])
  fields := #[{ name := "INFORMATIONAL", type := (.object "com/example/calm_current/calmcurrent/http/HttpStatus$Series"), accessFlags := 16409, slot := 0, constantValue := 0 }, { name := "SUCCESSFUL", type := (.object "com/example/calm_current/calmcurrent/http/HttpStatus$Series"), accessFlags := 16409, slot := 1, constantValue := 0 }, { name := "REDIRECTION", type := (.object "com/example/calm_current/calmcurrent/http/HttpStatus$Series"), accessFlags := 16409, slot := 2, constantValue := 0 }, { name := "CLIENT_ERROR", type := (.object "com/example/calm_current/calmcurrent/http/HttpStatus$Series"), accessFlags := 16409, slot := 3, constantValue := 0 }, { name := "SERVER_ERROR", type := (.object "com/example/calm_current/calmcurrent/http/HttpStatus$Series"), accessFlags := 16409, slot := 4, constantValue := 0 }, { name := "$VALUES", type := (.array (.object "com/example/calm_current/calmcurrent/http/HttpStatus$Series")), accessFlags := 4122, slot := 5, constantValue := 0 }]
  methods := #[k6m0]
  instanceTypes := #[(.object "java/lang/String"), .int, .int]
  staticTypes := #[(.object "com/example/calm_current/calmcurrent/http/HttpStatus$Series"), (.object "com/example/calm_current/calmcurrent/http/HttpStatus$Series"), (.object "com/example/calm_current/calmcurrent/http/HttpStatus$Series"), (.object "com/example/calm_current/calmcurrent/http/HttpStatus$Series"), (.object "com/example/calm_current/calmcurrent/http/HttpStatus$Series"), (.array (.object "com/example/calm_current/calmcurrent/http/HttpStatus$Series"))]
  resolved := Array.replicate 90 none
  statics := some 0 }

def pool7 : Array CpInfo := pool [(1, u "java/lang/Cloneable"), (0, .class_ 1), (0, u "java/lang/Object"), (0, .class_ 3)] 3

/-- java/lang/Cloneable -/
def k7 : Class := { plain "java/lang/Cloneable" (some 0) with
  accessFlags := 1537
  interfaces := #[]
  cf := some (fileOf pool7 2 #[] #[] 1537 4 #[] #[])
  fields := #[]
  methods := #[]
  instanceTypes := #[]
  staticTypes := #[]
  resolved := Array.replicate 8 none
  statics := none }

/-- the primitive byte -/
def k8 : Class := { plain "byte" none with kind := .primitive 'B', accessFlags := 0x411 }
/-- [B -/
def k9 : Class := { plain "[B" (some 0) with kind := .array 8 .byte, interfaces := #[7, 4], accessFlags := 1041 }

def heap : Heap := #[{ cls := 6, slots := #[.ref 1, .ref 2, .ref 4, .ref 3, .ref 5, .null], vm := .statics 6 },
  { cls := 6, slots := #[.null, .int 0, .int 0], vm := .none },
  { cls := 6, slots := #[.null, .int 0, .int 0], vm := .none },
  { cls := 6, slots := #[.null, .int 0, .int 0], vm := .none },
  { cls := 6, slots := #[.null, .int 0, .int 0], vm := .none },
  { cls := 6, slots := #[.null, .int 0, .int 0], vm := .none }]
def classes : Array Class := #[k0, k1, k2, k3, k4, k5, k6, k7, k8, k9]
def interned : List (Array UInt16 × Addr) := []
def slotsUsed : Nat := 21
def theMethod : MethodId := ⟨1, 1⟩
def args0 : Array Value := #[.int 5]
def aboutOver (below : List Frame) : State where
  vm := { classes := classes, interned := interned.toArray }
  heap := heap
  slotsUsed := slotsUsed
  threads := #[{ frames := .invoking theMethod args0 :: below }]
def below0 : List Frame := [.native { method := ⟨0, 0⟩, args := #[] }]
def about1 : State := aboutOver below0
def p0 : Program := .bare "" "" ""
def e0 : Env := launch0.env 0 0 0
theorem w_frames : about1.frames = Frame.invoking theMethod args0 :: below0 := rfl
set_option maxRecDepth 65536 in
theorem w_args : argsFit about1.vm theMethod args0 = true := by decide +kernel
set_option maxRecDepth 65536 in
theorem w_heap : heapFits about1 = true := by decide +kernel
set_option maxRecDepth 65536 in
theorem w_runnable : about1.curStatus? = some .runnable := by decide +kernel
set_option maxRecDepth 65536 in
theorem w_alone : about1.alone = true := by decide +kernel
set_option maxRecDepth 65536 in
theorem w_named : about1.methodNamed? x = some theMethod := by decide +kernel
set_option maxRecDepth 65536 in
theorem w_hears : about1.hears theMethod below0 = true := by decide +kernel
set_option maxRecDepth 65536 in
theorem w_ripe : about1.ripe theMethod args0 below0 = true := by decide +kernel
theorem w_running : about1.status = .running := rfl
set_option maxRecDepth 65536 in
theorem w_room : about1.hasRoom e0.platform room_1 = true :=
  launch0.hasRoom_least _ room_1 (by decide +kernel) (by decide +kernel) (by decide +kernel) (by decide +kernel) (by decide +kernel) (by decide +kernel)
theorem allAtoms_all (ts : List Jvm.Cond) (a : Array Jvm.Value) (st : Jvm.State) : (allAtoms ts).before a st = ts.all (fun c => c.before a st) := by
  induction ts with
  | nil => rfl
  | cons c t ih =>
    show (Jvm.Cond.and c (allAtoms t)).before a st = _
    rw [Jvm.Cond.before_and, ih, List.all_cons]
def words1 : List Jvm.Cond := Jvm.Cond.code x code maxLocals ret :: tables_1
/-- a 'code' word, met by the world's own term for the bytes: nothing is compared byte by byte -/
theorem code_word {y : MethodName} {bytes : ByteArray} {mx : Nat} {rt : Option FieldType} {a : Array Value} {s : State} {m : MethodId} {meth : Method} {c : Code} (h1 : s.methodNamed? y = some m) (h2 : s.vm.method? m = some meth) (h3 : meth.code = some c) (h4 : c.code = bytes)
    (h5 : (c.maxLocals == mx && c.exceptionTable.isEmpty && decide (c.maxStack ≤ mostOperands) && decide (meth.sig.returnType = rt) && !meth.locks && decide (parseMethodDescriptor y.desc = some meth.sig)) = true) : (Jvm.Cond.code y bytes mx rt).before a s = true := by
  simp only [Bool.and_eq_true, beq_iff_eq, Bool.not_eq_true', decide_eq_true_eq] at h5
  obtain ⟨⟨⟨⟨⟨g1, g2⟩, g3⟩, g4⟩, g5⟩, g6⟩ := h5
  simp [Cond.before, Cond.holds, Cond.value, h1, h2, h3, h4, g1, g2, g3, g4, g5, g6]
def isCode : Jvm.Cond → Bool
  | .code _ _ _ _ => true
  | _ => false
theorem all_split {L : List Jvm.Cond} {P : Jvm.Cond → Bool} (h1 : L.all (fun c => isCode c || P c) = true) (h2 : ∀ c ∈ L.filter isCode, P c = true) : L.all P = true := by
  refine List.all_eq_true.mpr fun c hc => ?_
  have h := List.all_eq_true.mp h1 c hc
  rcases Bool.eq_false_or_eq_true (isCode c) with hi | hi
  · exact h2 c (List.mem_filter.mpr ⟨hc, hi⟩)
  · simpa [hi] using h
set_option maxRecDepth 65536 in
theorem w_c0 : (Jvm.Cond.code x code maxLocals ret).before args0 about1 = true := code_word (m := ⟨1, 1⟩) (meth := k1m1) (c := k1c1) (by decide +kernel) rfl rfl rfl (by decide +kernel)
set_option maxRecDepth 65536 in
theorem w_c1 : (Jvm.Cond.code ({ cls := "com/example/calm_current/calmcurrent/http/HttpStatus$Series", name := "of", desc := "(I)Lcom/example/calm_current/calmcurrent/http/HttpStatus$Series;" } : Jvm.MethodName) prog_15_method_4_code (1 : Nat) (Option.some (Jvm.ClassFile.FieldType.object "com/example/calm_current/calmcurrent/http/HttpStatus$Series"))).before args0 about1 = true := code_word (m := ⟨6, 0⟩) (meth := k6m0) (c := k6c0) (by decide +kernel) rfl rfl rfl (by decide +kernel)
def codes1 : List Jvm.Cond := [Jvm.Cond.code x code maxLocals ret, Jvm.Cond.code ({ cls := "com/example/calm_current/calmcurrent/http/HttpStatus$Series", name := "of", desc := "(I)Lcom/example/calm_current/calmcurrent/http/HttpStatus$Series;" } : Jvm.MethodName) prog_15_method_4_code (1 : Nat) (Option.some (Jvm.ClassFile.FieldType.object "com/example/calm_current/calmcurrent/http/HttpStatus$Series"))]
set_option maxRecDepth 65536 in
theorem codes_eq : words1.filter isCode = codes1 := rfl
theorem w_codes : ∀ c ∈ words1.filter isCode, c.before args0 about1 = true := by
  rw [codes_eq]
  intro c hc
  simp only [codes1, List.mem_cons, List.not_mem_nil, or_false] at hc
  rcases hc with rfl | rfl
  · exact w_c0
  · exact w_c1
set_option maxRecDepth 65536 in
theorem w_t1 : words1.all (fun c => isCode c || c.before args0 about1) = true := by decide +kernel
theorem w_tables : (allAtoms (Jvm.Cond.code x code maxLocals ret :: tables_1)).before args0 about1 = true := by
  rw [allAtoms_all]
  show words1.all (fun c => c.before args0 about1) = true
  refine all_split ?_ w_codes
  rw [w_t1]
set_option maxRecDepth 65536 in
theorem w_case : (Jvm.Cond.and given_1 narrow_1).before args0 about1 = true := by decide +kernel
theorem w_applies : (headSpec (Jvm.Cond.code x code maxLocals ret :: tables_1) room_1).applies x e0.platform about1 = true :=
  (Spec.applies_iff w_frames).mpr ⟨w_running, w_runnable, w_alone, w_named, w_hears, w_ripe, w_room, w_tables⟩
theorem atStart : AtStart classFile x code maxLocals ret World_1 tables_1 room_1 Calls_1 rest_1 Pre_1 launch0 p0 e0 about1 theMethod args0 below0 :=
  ⟨lists_1, trivial, launch0.admits_env _ _ _, launch0.least_env, fairChoices_fair.cas, fairChoices_fair.clock, w_frames, w_args, w_heap, w_applies, trivial, trivial, w_case⟩
end start1
theorem witness_1 : WitnessClaimed_1 := ⟨start1.p0, start1.e0, start1.about1, start1.theMethod, start1.args0, start1.below0, start1.atStart⟩
end Jvm.Pilot.@@N@@
