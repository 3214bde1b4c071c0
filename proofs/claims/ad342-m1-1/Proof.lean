import JvmDerived
import JvmDerived.Pilot.@@N@@Statement
import JvmDerived.Pilot.@@N@@Code
set_option linter.unusedVariables false
set_option linter.unusedSimpArgs false
namespace Jvm.RoadKit
open Sem ClassFile Op Lib Jvm.Stand Jvm.Free Jvm.LawKit
section New
variable {p : Program} {l : Launch} {e : Env} {R : Room} {s : State} {m : MethodId} {args : Array Value} {below : List Frame} {meth : Method} {c : Code} {T : State} {locs : List Loc} {cells slots : Nat}
theorem retI (X : Stand p l e R s m args below meth c T locs cells slots) (hx : p.tables.exec = Jvm.exec) {pc : Nat} {Ls : Array Slot} {z : Int32} {rest : List Value} (hret : meth.sig.returnType = some .int) (hd : decode c.code pc = .ok (.ireturn, 1)) {fs : List Frame}
    (hl : ∀ (f : JFrame) (acts : List Action), f.method = m → f.locked = none → f.entered = [] → (doReturn e (T.setTop f) acts (some (.int z))).1 = T.setFrames fs) : Steps p.tables e below (T.setTop (mkF m pc Ls (.int z :: rest))) (T.setFrames fs) := by
  have hm' : T.vm.method? m = some meth := X.method'
  have hn : narrow .int (.int z) = .int z := rfl
  show Steps p.tables e below (T.setTop { method := m, pc := pc, locals := Ls, stack := _ :: rest, locked := none }) _
  jvm_step X.here [X.here.top, hx, hd, hm', hret, hn]
  first | (intro acts; rw [hl _ acts rfl rfl rfl]) | rw [hl _ _ rfl rfl rfl]
  exact Steps.refl _
end New
end Jvm.RoadKit
namespace Jvm.Pilot.@@N@@
open Jvm Jvm.ClassFile Sem Op Lib Jvm.Free Jvm.Stand Jvm.LawKit Jvm.RoadKit Bundle Jvm.Pilot.@@N@@.Jvm.D
/-- what the return with the value v leads to -/
def own_RetTo (e : Env) (T : State) (m : MethodId) (v : Option Value) (fs : List Frame) : Prop := ∀ (f : JFrame) (acts : List Action), f.method = m → f.locked = none → f.entered = [] → (doReturn e (T.setTop f) acts v).1 = T.setFrames fs
theorem d1_0 : decode jdk_30_method_1_code 0 = .ok (.aload_n 0, 1) := by decide +kernel
theorem d1_1 : decode jdk_30_method_1_code 1 = .ok (.invokespecial 1, 3) := by decide +kernel
theorem d1_4 : decode jdk_30_method_1_code 4 = .ok (.return_, 1) := by decide +kernel
theorem pn_0 : plainName "java/lang/Record" = true := by first | (simp [plainName, overriddenIn]; done) | decide +kernel
theorem ef_1 (m : MethodId) (x0 : Addr) : entryFrame m #[(.ref x0)] 1 = mkF m 0 #[.val (.ref x0)] [] := by first | (simp [entryFrame, mkF, argsToLocals, Value.category]; done) | rfl
def Q1 (Z : State) (o0 : Addr) (h0 : Heap) (n0 : Nat) (v : Option Value) (h : Heap) (L : List Loc) : Prop := v = none ∧ Fr n0 L ∧ h = h0
set_option maxRecDepth 65536 in
set_option maxHeartbeats 40000000 in
theorem rm1 (l : Launch) (Z : State) (a0 : Array Value) (hw : ∀ d ∈ tables_1, d.before a0 Z = true) (ws : List Jvm.Cond) (o0 : Addr) (h0 : Heap) (n0 : Nat) :
    MetFree l (⟨"java/lang/Record", "<init>", "()V"⟩ : MethodName) (head1 (Jvm.Cond.code (⟨"java/lang/Record", "<init>", "()V"⟩ : MethodName) jdk_30_method_1_code 1 none :: ws) ({ frames := 1, cells := 0, slots := 0, locals := 12 } : Room)) (fun a U => a = #[(.ref o0)] ∧ Z.Warmed39 U.vm ∧ U.heap = h0) (fun _ _ _ _ _ => True) (fun _ U o U' => ∃ v L, o = .returned v ∧ Q1 Z o0 h0 n0 v U'.heap L ∧ FrameEnd U o U' L ({ frames := 1, cells := 0, slots := 0, locals := 12 } : Room).cells ({ frames := 1, cells := 0, slots := 0, locals := 12 } : Room).slots) := by
  refine MetFree.of_bodySF (plainFor_of_name pn_0) hisR ?_
  intro p e s m args below meth c s₁ Bd hml0 hP hK
  obtain ⟨rfl, hZ, hh⟩ := hP
  have hx := Bd.exec
  have hby := Bd.bytes
  have hml : c.maxLocals = 1 := hml0
  have hown : s.vm.findClass "java/lang/Record" = some m.cls := findClass_of_methodNamed Bd.named
  have hnm := (name_of_methodNamed Bd.named Bd.method).1
  have X0 : Stand p l e ({ frames := 1, cells := 0, slots := 0, locals := 12 } : Room) s m #[(.ref o0)] below meth c s₁ [] 0 0 := Stand.of_body Bd
  have e0 : s₁.heap = h0 := by rw [← hh, Bd.state]; rfl
  have N0 := Fr.nil n0
  have pre0 : ∀ t, Steps p.tables e below (s₁.setTop (mkF m 0 #[.val (.ref o0)] [])) t → Steps p.tables e below (s₁.setTop (entryFrame m #[(.ref o0)] 1)) t := fun t k => castTop (ef_1 m o0) k
  obtain ⟨T1, X1, e1, st1⟩ := initO X0 hx hZ hown (hw _ (List.mem_of_getElem? (i := 12) rfl)) (hw _ (List.mem_of_getElem? (i := 13) rfl)) (hw _ (List.mem_of_getElem? (i := 14) rfl)) e0 (g := (mkF m 1 #[.val (.ref o0)] [(.ref o0)])) rfl (by rw [hml]; rfl) rfl (hb hby d1_1) (by decide) (W := 0) (by show 2 * 0 + _ ≤ _; exact Nat.le_of_eq rfl) (by decide)
  obtain ⟨fs, hr, hrun, hended, hW, hsame⟩ := X1.leave (v := none) (fun _ => rfl)
  refine ⟨_, _, pre0 _ ?_, hrun, hended, _, _, rfl, ?_, ⟨_, rfl⟩, hW, hsame.mono (by decide) (by decide)⟩
  · show Steps p.tables e below (s₁.setTop (mkF m 0 #[.val (.ref o0)] [])) _
    refine XS.aloadN X0.here hx rfl (hb hby d1_0) rfl rfl ?_
    show Steps p.tables e below (s₁.setTop (mkF m 1 #[.val (.ref o0)] [(.ref o0)])) _
    refine st1 _ ?_
    show Steps p.tables e below (T1.setTop (mkF m 4 #[.val (.ref o0)] [])) _
    exact X1.returnOut hx Bd.returns (hb hby d1_4) hr
  · show Q1 Z o0 h0 n0 _ T1.heap _
    rw [e1]
    exact ⟨rfl, N0, rfl⟩
theorem pd_0 : parseMethodDescriptor "()V" = some ⟨[], none⟩ := by decide +kernel
theorem d2_0 : decode prog_33_method_1_code 0 = .ok (.aload_n 0, 1) := by decide +kernel
theorem d2_1 : decode prog_33_method_1_code 1 = .ok (.invokespecial 1, 3) := by decide +kernel
theorem d2_4 : decode prog_33_method_1_code 4 = .ok (.aload_n 0, 1) := by decide +kernel
theorem d2_5 : decode prog_33_method_1_code 5 = .ok (.lload_n 1, 1) := by decide +kernel
theorem d2_6 : decode prog_33_method_1_code 6 = .ok (.putfield 7, 3) := by decide +kernel
theorem d2_9 : decode prog_33_method_1_code 9 = .ok (.aload_n 0, 1) := by decide +kernel
theorem d2_10 : decode prog_33_method_1_code 10 = .ok (.lload_n 3, 1) := by decide +kernel
theorem d2_11 : decode prog_33_method_1_code 11 = .ok (.putfield 13, 3) := by decide +kernel
theorem d2_14 : decode prog_33_method_1_code 14 = .ok (.aload_n 0, 1) := by decide +kernel
theorem d2_15 : decode prog_33_method_1_code 15 = .ok (.lload 5, 2) := by decide +kernel
theorem d2_17 : decode prog_33_method_1_code 17 = .ok (.putfield 16, 3) := by decide +kernel
theorem d2_20 : decode prog_33_method_1_code 20 = .ok (.return_, 1) := by decide +kernel
theorem pn_1 : plainName "com/example/riverlock/riverlock/Windows" = true := by first | (simp [plainName, overriddenIn]; done) | decide +kernel
theorem ef_2 (m : MethodId) (x0 : Addr) (x1 : Int64) (x2 : Int64) (x3 : Int64) : entryFrame m #[(.ref x0), (.long x1), (.long x2), (.long x3)] 7 = mkF m 0 #[.val (.ref x0), .val (.long x1), .second, .val (.long x2), .second, .val (.long x3), .second] [] := by first | (simp [entryFrame, mkF, argsToLocals, Value.category]; done) | rfl
def Q2 (Z : State) (o0 : Addr) (j1 : Int64) (j2 : Int64) (j3 : Int64) (h0 : Heap) (n0 : Nat) (v : Option Value) (h : Heap) (L : List Loc) : Prop := v = none ∧ Fr n0 L ∧ Keep h0 h [o0] ∧ Exa Z h o0 "com/example/riverlock/riverlock/Windows" ∧ Fld Z h o0 "com/example/riverlock/riverlock/Windows" "size" "J" (.long j1) ∧ Fld Z h o0 "com/example/riverlock/riverlock/Windows" "grace" "J" (.long j3)
set_option maxRecDepth 65536 in
set_option maxHeartbeats 40000000 in
theorem rm2 (l : Launch) (Z : State) (a0 : Array Value) (hw : ∀ d ∈ tables_1, d.before a0 Z = true) (ws : List Jvm.Cond) (o0 : Addr) (j1 : Int64) (j2 : Int64) (j3 : Int64) (h0 : Heap) (n0 : Nat) (F_size : Fld Z h0 o0 "com/example/riverlock/riverlock/Windows" "size" "J" (.long (0 : Int64))) (F_advance : Fld Z h0 o0 "com/example/riverlock/riverlock/Windows" "advance" "J" (.long (0 : Int64))) (F_grace : Fld Z h0 o0 "com/example/riverlock/riverlock/Windows" "grace" "J" (.long (0 : Int64))) (E1 : Exa Z h0 o0 "com/example/riverlock/riverlock/Windows") (g_o0 : n0 ≤ o0) :
    MetFree l (⟨"com/example/riverlock/riverlock/Windows", "<init>", "(JJJ)V"⟩ : MethodName) (head1 (Jvm.Cond.code (⟨"com/example/riverlock/riverlock/Windows", "<init>", "(JJJ)V"⟩ : MethodName) prog_33_method_1_code 7 none :: ws) ({ frames := 2, cells := 0, slots := 0, locals := 24 } : Room)) (fun a U => a = #[(.ref o0), (.long j1), (.long j2), (.long j3)] ∧ Z.Warmed39 U.vm ∧ U.heap = h0) (fun _ _ _ _ _ => True) (fun _ U o U' => ∃ v L, o = .returned v ∧ Q2 Z o0 j1 j2 j3 h0 n0 v U'.heap L ∧ FrameEnd U o U' L ({ frames := 2, cells := 0, slots := 0, locals := 24 } : Room).cells ({ frames := 2, cells := 0, slots := 0, locals := 24 } : Room).slots) := by
  refine MetFree.of_bodySF (plainFor_of_name pn_1) hisR ?_
  intro p e s m args below meth c s₁ Bd hml0 hP hK
  obtain ⟨rfl, hZ, hh⟩ := hP
  have hx := Bd.exec
  have hby := Bd.bytes
  have hml : c.maxLocals = 7 := hml0
  have hown : s.vm.findClass "com/example/riverlock/riverlock/Windows" = some m.cls := findClass_of_methodNamed Bd.named
  have hnm := (name_of_methodNamed Bd.named Bd.method).1
  have X0 : Stand p l e ({ frames := 2, cells := 0, slots := 0, locals := 24 } : Room) s m #[(.ref o0), (.long j1), (.long j2), (.long j3)] below meth c s₁ [] 0 0 := Stand.of_body Bd
  have e0 : s₁.heap = h0 := by rw [← hh, Bd.state]; rfl
  have N0 := Fr.nil n0
  have pre0 : ∀ t, Steps p.tables e below (s₁.setTop (mkF m 0 #[.val (.ref o0), .val (.long j1), .second, .val (.long j2), .second, .val (.long j3), .second] [])) t → Steps p.tables e below (s₁.setTop (entryFrame m #[(.ref o0), (.long j1), (.long j2), (.long j3)] 7)) t := fun t k => castTop (ef_2 m o0 j1 j2 j3) k
  obtain ⟨_, _, ⟨T1, L1, k1, n1⟩, -, X1, ⟨Lc1, hQ1, l1, y1, z1⟩, st1⟩ := X0.specialBack hx (y := (⟨"java/lang/Record", "<init>", "()V"⟩ : MethodName)) rfl hown (mvT hZ (hw _ (List.mem_of_getElem? (i := 7) rfl))) (mvT hZ (hw _ (List.mem_of_getElem? (i := 8) rfl))) (mvT hZ (hw _ (List.mem_of_getElem? (i := 11) rfl))) (by decide) (backOf (W := 0) (rm1 l Z a0 hw [] o0 h0 n0) hZ (hw _ (List.mem_of_getElem? (i := 11) rfl)) (hw _ (List.mem_of_getElem? (i := 10) rfl)) (by decide) (by decide)) (g := (mkF m 1 #[.val (.ref o0), .val (.long j1), .second, .val (.long j2), .second, .val (.long j3), .second] [(.ref o0)])) rfl (by rw [hml]; rfl) (Steps.refl _) (a := o0) (argsL := []) (rest := []) (lenOf pd_0 rfl) rfl (by show 2 * 0 + _ ≤ _; exact Nat.le_of_eq rfl) (hb hby d2_1) (fun _ _ => ⟨rfl, e0, (by decide : 0 + 0 ≤ _), (by decide : 0 + 0 ≤ _)⟩)
  dsimp only [Pt.U, Pt.locs, Pt.cells, Pt.slots] at X1 l1 y1 z1 st1 hQ1
  subst l1 y1 z1
  obtain ⟨rfl, N1q, e1q⟩ := hQ1
  have N1 := Fr.app N0 N1q
  obtain ⟨T2, h2, X2, e2, W2, st2⟩ := putF X1 hx hZ hown (host := "") (Or.inl (hw _ (List.mem_of_getElem? (i := 15) rfl))) Via.refl e1q F_size E1 (Or.inr ⟨(hw _ (List.mem_of_getElem? (i := 16) rfl)), rfl, hnm⟩) (hw _ (List.mem_of_getElem? (i := 2) rfl)) (ty := .long) (by decide) rfl rfl (g := (mkF m 6 #[.val (.ref o0), .val (.long j1), .second, .val (.long j2), .second, .val (.long j3), .second] [(.long j1), (.ref o0)])) rfl rfl (hb hby d2_6)
  have N2f := Fr.snoc X2 N1 g_o0
  have F_size2 := F_size.same W2
  have F_advance2 := F_advance.other W2 (Or.inr (Jvm.RoadKit.slot_ne (Or.inr (hw _ (List.mem_of_getElem? (i := 18) rfl))) (Or.inr (hw _ (List.mem_of_getElem? (i := 16) rfl))) (by decide) (t := .long) (t' := .long) (by decide) (by decide)))
  have F_grace2 := F_grace.other W2 (Or.inr (Jvm.RoadKit.slot_ne (Or.inr (hw _ (List.mem_of_getElem? (i := 20) rfl))) (Or.inr (hw _ (List.mem_of_getElem? (i := 16) rfl))) (by decide) (t := .long) (t' := .long) (by decide) (by decide)))
  have E_2 := E1.wr W2
  have K_2 : Keep h0 h2 [o0] := (Keep.refl h0 [o0]).wr W2 (Or.inl (List.mem_of_getElem? (i := 0) rfl))
  obtain ⟨T3, h3, X3, e3, W3, st3⟩ := putF X2 hx hZ hown (host := "") (Or.inl (hw _ (List.mem_of_getElem? (i := 17) rfl))) Via.refl e2 F_advance2 E_2 (Or.inr ⟨(hw _ (List.mem_of_getElem? (i := 18) rfl)), rfl, hnm⟩) (hw _ (List.mem_of_getElem? (i := 2) rfl)) (ty := .long) (by decide) rfl rfl (g := (mkF m 11 #[.val (.ref o0), .val (.long j1), .second, .val (.long j2), .second, .val (.long j3), .second] [(.long j2), (.ref o0)])) rfl rfl (hb hby d2_11)
  have N3f := Fr.snoc X3 N2f g_o0
  have F_size3 := F_size2.other W3 (Or.inr (Jvm.RoadKit.slot_ne (Or.inr (hw _ (List.mem_of_getElem? (i := 16) rfl))) (Or.inr (hw _ (List.mem_of_getElem? (i := 18) rfl))) (by decide) (t := .long) (t' := .long) (by decide) (by decide)))
  have F_advance3 := F_advance2.same W3
  have F_grace3 := F_grace2.other W3 (Or.inr (Jvm.RoadKit.slot_ne (Or.inr (hw _ (List.mem_of_getElem? (i := 20) rfl))) (Or.inr (hw _ (List.mem_of_getElem? (i := 18) rfl))) (by decide) (t := .long) (t' := .long) (by decide) (by decide)))
  have E_3 := E_2.wr W3
  have K_3 : Keep h0 h3 [o0] := K_2.wr W3 (Or.inl (List.mem_of_getElem? (i := 0) rfl))
  obtain ⟨T4, h4, X4, e4, W4, st4⟩ := putF X3 hx hZ hown (host := "") (Or.inl (hw _ (List.mem_of_getElem? (i := 19) rfl))) Via.refl e3 F_grace3 E_3 (Or.inr ⟨(hw _ (List.mem_of_getElem? (i := 20) rfl)), rfl, hnm⟩) (hw _ (List.mem_of_getElem? (i := 2) rfl)) (ty := .long) (by decide) rfl rfl (g := (mkF m 17 #[.val (.ref o0), .val (.long j1), .second, .val (.long j2), .second, .val (.long j3), .second] [(.long j3), (.ref o0)])) rfl rfl (hb hby d2_17)
  have N4f := Fr.snoc X4 N3f g_o0
  have F_size4 := F_size3.other W4 (Or.inr (Jvm.RoadKit.slot_ne (Or.inr (hw _ (List.mem_of_getElem? (i := 16) rfl))) (Or.inr (hw _ (List.mem_of_getElem? (i := 20) rfl))) (by decide) (t := .long) (t' := .long) (by decide) (by decide)))
  have F_advance4 := F_advance3.other W4 (Or.inr (Jvm.RoadKit.slot_ne (Or.inr (hw _ (List.mem_of_getElem? (i := 18) rfl))) (Or.inr (hw _ (List.mem_of_getElem? (i := 20) rfl))) (by decide) (t := .long) (t' := .long) (by decide) (by decide)))
  have F_grace4 := F_grace3.same W4
  have E_4 := E_3.wr W4
  have K_4 : Keep h0 h4 [o0] := K_3.wr W4 (Or.inl (List.mem_of_getElem? (i := 0) rfl))
  obtain ⟨fs, hr, hrun, hended, hW, hsame⟩ := X4.leave (v := none) (fun _ => rfl)
  refine ⟨_, _, pre0 _ ?_, hrun, hended, _, _, rfl, ?_, ⟨_, rfl⟩, hW, hsame.mono (by decide) (by decide)⟩
  · show Steps p.tables e below (s₁.setTop (mkF m 0 #[.val (.ref o0), .val (.long j1), .second, .val (.long j2), .second, .val (.long j3), .second] [])) _
    refine XS.aloadN X0.here hx rfl (hb hby d2_0) rfl rfl ?_
    show Steps p.tables e below (s₁.setTop (mkF m 1 #[.val (.ref o0), .val (.long j1), .second, .val (.long j2), .second, .val (.long j3), .second] [(.ref o0)])) _
    refine st1.trans ?_
    show Steps p.tables e below (T1.setTop (mkF m 4 #[.val (.ref o0), .val (.long j1), .second, .val (.long j2), .second, .val (.long j3), .second] [])) _
    refine XS.aloadN X1.here hx rfl (hb hby d2_4) rfl rfl ?_
    show Steps p.tables e below (T1.setTop (mkF m 5 #[.val (.ref o0), .val (.long j1), .second, .val (.long j2), .second, .val (.long j3), .second] [(.ref o0)])) _
    refine XS.lloadN X1.here hx rfl (hb hby d2_5) rfl ?_
    show Steps p.tables e below (T1.setTop (mkF m 6 #[.val (.ref o0), .val (.long j1), .second, .val (.long j2), .second, .val (.long j3), .second] [(.long j1), (.ref o0)])) _
    refine st2 _ ?_
    show Steps p.tables e below (T2.setTop (mkF m 9 #[.val (.ref o0), .val (.long j1), .second, .val (.long j2), .second, .val (.long j3), .second] [])) _
    refine XS.aloadN X2.here hx rfl (hb hby d2_9) rfl rfl ?_
    show Steps p.tables e below (T2.setTop (mkF m 10 #[.val (.ref o0), .val (.long j1), .second, .val (.long j2), .second, .val (.long j3), .second] [(.ref o0)])) _
    refine XS.lloadN X2.here hx rfl (hb hby d2_10) rfl ?_
    show Steps p.tables e below (T2.setTop (mkF m 11 #[.val (.ref o0), .val (.long j1), .second, .val (.long j2), .second, .val (.long j3), .second] [(.long j2), (.ref o0)])) _
    refine st3 _ ?_
    show Steps p.tables e below (T3.setTop (mkF m 14 #[.val (.ref o0), .val (.long j1), .second, .val (.long j2), .second, .val (.long j3), .second] [])) _
    refine XS.aloadN X3.here hx rfl (hb hby d2_14) rfl rfl ?_
    show Steps p.tables e below (T3.setTop (mkF m 15 #[.val (.ref o0), .val (.long j1), .second, .val (.long j2), .second, .val (.long j3), .second] [(.ref o0)])) _
    refine XS.lload X3.here hx rfl (hb hby d2_15) rfl ?_
    show Steps p.tables e below (T3.setTop (mkF m 17 #[.val (.ref o0), .val (.long j1), .second, .val (.long j2), .second, .val (.long j3), .second] [(.long j3), (.ref o0)])) _
    refine st4 _ ?_
    show Steps p.tables e below (T4.setTop (mkF m 20 #[.val (.ref o0), .val (.long j1), .second, .val (.long j2), .second, .val (.long j3), .second] [])) _
    exact X4.returnOut hx Bd.returns (hb hby d2_20) hr
  · show Q2 Z o0 j1 j2 j3 h0 n0 _ T4.heap _
    rw [e4]
    exact ⟨rfl, N4f, K_4, E_4, F_size4, F_grace4⟩
def f3_5 (j0 : Int64) (j1 : Int64) : Int64 := (if (j0 + j1) < j0 then (9223372036854775807 : Int64) else (j0 + j1))
theorem d3_0 : decode prog_33_method_5_code 0 = .ok (.lload_n 0, 1) := by decide +kernel
theorem d3_1 : decode prog_33_method_5_code 1 = .ok (.lload_n 2, 1) := by decide +kernel
theorem d3_2 : decode prog_33_method_5_code 2 = .ok (.ladd, 1) := by decide +kernel
theorem d3_3 : decode prog_33_method_5_code 3 = .ok (.lstore 4, 2) := by decide +kernel
theorem d3_5 : decode prog_33_method_5_code 5 = .ok (.lload 4, 2) := by decide +kernel
theorem d3_7 : decode prog_33_method_5_code 7 = .ok (.lload_n 0, 1) := by decide +kernel
theorem d3_8 : decode prog_33_method_5_code 8 = .ok (.lcmp, 1) := by decide +kernel
theorem d3_9 : decode prog_33_method_5_code 9 = .ok (.ifCond .ge 9, 3) := by decide +kernel
theorem d3_12 : decode prog_33_method_5_code 12 = .ok (.ldc2_w 48, 3) := by decide +kernel
theorem d3_15 : decode prog_33_method_5_code 15 = .ok (.goto 5, 3) := by decide +kernel
theorem d3_18 : decode prog_33_method_5_code 18 = .ok (.lload 4, 2) := by decide +kernel
theorem d3_20 : decode prog_33_method_5_code 20 = .ok (.lreturn, 1) := by decide +kernel
theorem ef_3 (m : MethodId) (x0 : Int64) (x1 : Int64) : entryFrame m #[(.long x0), (.long x1)] 6 = mkF m 0 #[.val (.long x0), .second, .val (.long x1), .second, .unset, .unset] [] := by first | (simp [entryFrame, mkF, argsToLocals, Value.category]; done) | rfl
def Q3 (Z : State) (j0 : Int64) (j1 : Int64) (h0 : Heap) (n0 : Nat) (v : Option Value) (h : Heap) (L : List Loc) : Prop := v = some (.long (f3_5 j0 j1)) ∧ Fr n0 L ∧ h = h0
set_option maxRecDepth 65536 in
set_option maxHeartbeats 40000000 in
theorem rm3 (l : Launch) (Z : State) (a0 : Array Value) (hw : ∀ d ∈ tables_1, d.before a0 Z = true) (ws : List Jvm.Cond) (j0 : Int64) (j1 : Int64) (h0 : Heap) (n0 : Nat) :
    MetFree l (⟨"com/example/riverlock/riverlock/Windows", "plus", "(JJ)J"⟩ : MethodName) (head1 (Jvm.Cond.code (⟨"com/example/riverlock/riverlock/Windows", "plus", "(JJ)J"⟩ : MethodName) prog_33_method_5_code 6 (some .long) :: ws) ({ frames := 0, cells := 0, slots := 0, locals := 0 } : Room)) (fun a U => a = #[(.long j0), (.long j1)] ∧ Z.Warmed39 U.vm ∧ U.heap = h0) (fun _ _ _ _ _ => True) (fun _ U o U' => ∃ v L, o = .returned v ∧ Q3 Z j0 j1 h0 n0 v U'.heap L ∧ FrameEnd U o U' L ({ frames := 0, cells := 0, slots := 0, locals := 0 } : Room).cells ({ frames := 0, cells := 0, slots := 0, locals := 0 } : Room).slots) := by
  refine MetFree.of_bodySF (plainFor_of_name pn_1) hisR ?_
  intro p e s m args below meth c s₁ Bd hml0 hP hK
  obtain ⟨rfl, hZ, hh⟩ := hP
  have hx := Bd.exec
  have hby := Bd.bytes
  have hml : c.maxLocals = 6 := hml0
  have hown : s.vm.findClass "com/example/riverlock/riverlock/Windows" = some m.cls := findClass_of_methodNamed Bd.named
  have hnm := (name_of_methodNamed Bd.named Bd.method).1
  have X0 : Stand p l e ({ frames := 0, cells := 0, slots := 0, locals := 0 } : Room) s m #[(.long j0), (.long j1)] below meth c s₁ [] 0 0 := Stand.of_body Bd
  have e0 : s₁.heap = h0 := by rw [← hh, Bd.state]; rfl
  have N0 := Fr.nil n0
  have pre0 : ∀ t, Steps p.tables e below (s₁.setTop (mkF m 0 #[.val (.long j0), .second, .val (.long j1), .second, .unset, .unset] [])) t → Steps p.tables e below (s₁.setTop (entryFrame m #[(.long j0), (.long j1)] 6)) t := fun t k => castTop (ef_3 m j0 j1) k
  have sg5 : ∀ {fs : List Frame}, own_RetTo e s₁ m (some (.long (f3_5 j0 j1))) fs → Steps p.tables e below (s₁.setTop (mkF m 5 #[.val (.long j0), .second, .val (.long j1), .second, .val (.long (j0 + j1)), .second] [])) (s₁.setFrames fs) := by
    intro fs hr
    show Steps p.tables e below (s₁.setTop (mkF m 5 #[.val (.long j0), .second, .val (.long j1), .second, .val (.long (j0 + j1)), .second] [])) _
    refine XS.lload X0.here hx rfl (hb hby d3_5) rfl ?_
    show Steps p.tables e below (s₁.setTop (mkF m 7 #[.val (.long j0), .second, .val (.long j1), .second, .val (.long (j0 + j1)), .second] [(.long (j0 + j1))])) _
    refine XS.lloadN X0.here hx rfl (hb hby d3_7) rfl ?_
    show Steps p.tables e below (s₁.setTop (mkF m 8 #[.val (.long j0), .second, .val (.long j1), .second, .val (.long (j0 + j1)), .second] [(.long j0), (.long (j0 + j1))])) _
    refine XS.lcmp X0.here hx rfl (hb hby d3_8) rfl ?_
    show Steps p.tables e below (s₁.setTop (mkF m 9 #[.val (.long j0), .second, .val (.long j1), .second, .val (.long (j0 + j1)), .second] [(.int (lcmpW (j0 + j1) j0))])) _
    by_cases hc9 : (j0 + j1) < j0
    · refine XS.ifNo X0.here hx rfl (hb hby d3_9) rfl ((if0 _ _).trans (tlt ((lw_lt (j0 + j1) j0).mpr hc9)).2.1) ?_
      show Steps p.tables e below (s₁.setTop (mkF m 12 #[.val (.long j0), .second, .val (.long j1), .second, .val (.long (j0 + j1)), .second] [])) _
      refine X0.ldc2Long hx hown (mvT hZ (hw _ (List.mem_of_getElem? (i := 38) rfl))) (g := (mkF m 12 #[.val (.long j0), .second, .val (.long j1), .second, .val (.long (j0 + j1)), .second] [])) rfl (hb hby d3_12) _ ?_
      show Steps p.tables e below (s₁.setTop (mkF m 15 #[.val (.long j0), .second, .val (.long j1), .second, .val (.long (j0 + j1)), .second] [(.long (9223372036854775807 : Int64))])) _
      refine XS.goto X0.here hx rfl (pc0 := 15) (pc' := 20) rfl (hb hby d3_15) (by decide) (by decide) ?_
      have hv : f3_5 j0 j1 = (9223372036854775807 : Int64) := by unfold f3_5; rw [if_pos hc9]
      rw [hv] at hr
      show Steps p.tables e below (s₁.setTop (mkF m 20 #[.val (.long j0), .second, .val (.long j1), .second, .val (.long (j0 + j1)), .second] [(.long (9223372036854775807 : Int64))])) _
      exact X0.lreturnOut hx Bd.returns (hb hby d3_20) hr
    · refine XS.ifYes X0.here hx rfl (pc0 := 9) (pc' := 18) rfl (hb hby d3_9) rfl ((if0 _ _).trans (flt (fun q => hc9 ((lw_lt (j0 + j1) j0).mp q))).2.1) (by decide) (by decide) ?_
      show Steps p.tables e below (s₁.setTop (mkF m 18 #[.val (.long j0), .second, .val (.long j1), .second, .val (.long (j0 + j1)), .second] [])) _
      refine XS.lload X0.here hx rfl (hb hby d3_18) rfl ?_
      have hv : f3_5 j0 j1 = (j0 + j1) := by unfold f3_5; rw [if_neg hc9]
      rw [hv] at hr
      show Steps p.tables e below (s₁.setTop (mkF m 20 #[.val (.long j0), .second, .val (.long j1), .second, .val (.long (j0 + j1)), .second] [(.long (j0 + j1))])) _
      exact X0.lreturnOut hx Bd.returns (hb hby d3_20) hr
  obtain ⟨fs, hr, hrun, hended, hW, hsame⟩ := X0.leave (v := some (.long (f3_5 j0 j1))) (fun h => by rw [Bd.returns] at h; cases h)
  refine ⟨_, _, pre0 _ ?_, hrun, hended, _, _, rfl, ?_, ⟨_, rfl⟩, hW, hsame.mono (by decide) (by decide)⟩
  · show Steps p.tables e below (s₁.setTop (mkF m 0 #[.val (.long j0), .second, .val (.long j1), .second, .unset, .unset] [])) _
    refine XS.lloadN X0.here hx rfl (hb hby d3_0) rfl ?_
    show Steps p.tables e below (s₁.setTop (mkF m 1 #[.val (.long j0), .second, .val (.long j1), .second, .unset, .unset] [(.long j0)])) _
    refine XS.lloadN X0.here hx rfl (hb hby d3_1) rfl ?_
    show Steps p.tables e below (s₁.setTop (mkF m 2 #[.val (.long j0), .second, .val (.long j1), .second, .unset, .unset] [(.long j1), (.long j0)])) _
    refine XS.ladd X0.here hx rfl (hb hby d3_2) rfl ?_
    show Steps p.tables e below (s₁.setTop (mkF m 3 #[.val (.long j0), .second, .val (.long j1), .second, .unset, .unset] [(.long (j0 + j1))])) _
    refine XS.lstore X0.here hx rfl (hb hby d3_3) rfl (l' := #[.val (.long j0), .second, .val (.long j1), .second, .val (.long (j0 + j1)), .second]) rfl ?_
    show Steps p.tables e below (s₁.setTop (mkF m 5 #[.val (.long j0), .second, .val (.long j1), .second, .val (.long (j0 + j1)), .second] [])) _
    exact sg5 hr
  · show Q3 Z j0 j1 h0 n0 _ s₁.heap _
    rw [e0]
    exact ⟨rfl, N0, rfl⟩
theorem pd_1 : parseMethodDescriptor "(JJ)J" = some ⟨[.long, .long], some .long⟩ := by decide +kernel
theorem d4_0 : decode prog_33_method_3_code 0 = .ok (.lload_n 1, 1) := by decide +kernel
theorem d4_1 : decode prog_33_method_3_code 1 = .ok (.aload_n 0, 1) := by decide +kernel
theorem d4_2 : decode prog_33_method_3_code 2 = .ok (.getfield 7, 3) := by decide +kernel
theorem d4_5 : decode prog_33_method_3_code 5 = .ok (.invokestatic 39, 3) := by decide +kernel
theorem d4_8 : decode prog_33_method_3_code 8 = .ok (.lreturn, 1) := by decide +kernel
theorem ef_4 (m : MethodId) (x0 : Addr) (x1 : Int64) : entryFrame m #[(.ref x0), (.long x1)] 3 = mkF m 0 #[.val (.ref x0), .val (.long x1), .second] [] := by first | (simp [entryFrame, mkF, argsToLocals, Value.category]; done) | rfl
def Q4 (Z : State) (o0 : Addr) (j1 : Int64) (v0 : Int64) (h0 : Heap) (n0 : Nat) (v : Option Value) (h : Heap) (L : List Loc) : Prop := v = some (.long (f3_5 j1 v0)) ∧ Fr n0 L ∧ h = h0
set_option maxRecDepth 65536 in
set_option maxHeartbeats 40000000 in
theorem rm4 (l : Launch) (Z : State) (a0 : Array Value) (hw : ∀ d ∈ tables_1, d.before a0 Z = true) (ws : List Jvm.Cond) (o0 : Addr) (j1 : Int64) (v0 : Int64) (h0 : Heap) (n0 : Nat) (Fs : Fld Z h0 o0 "com/example/riverlock/riverlock/Windows" "size" "J" (.long v0)) :
    MetFree l (⟨"com/example/riverlock/riverlock/Windows", "end", "(J)J"⟩ : MethodName) (head1 (Jvm.Cond.code (⟨"com/example/riverlock/riverlock/Windows", "end", "(J)J"⟩ : MethodName) prog_33_method_3_code 3 (some .long) :: ws) ({ frames := 1, cells := 0, slots := 0, locals := 17 } : Room)) (fun a U => a = #[(.ref o0), (.long j1)] ∧ Z.Warmed39 U.vm ∧ U.heap = h0) (fun _ _ _ _ _ => True) (fun _ U o U' => ∃ v L, o = .returned v ∧ Q4 Z o0 j1 v0 h0 n0 v U'.heap L ∧ FrameEnd U o U' L ({ frames := 1, cells := 0, slots := 0, locals := 17 } : Room).cells ({ frames := 1, cells := 0, slots := 0, locals := 17 } : Room).slots) := by
  refine MetFree.of_bodySF (plainFor_of_name pn_1) hisR ?_
  intro p e s m args below meth c s₁ Bd hml0 hP hK
  obtain ⟨rfl, hZ, hh⟩ := hP
  have hx := Bd.exec
  have hby := Bd.bytes
  have hml : c.maxLocals = 3 := hml0
  have hown : s.vm.findClass "com/example/riverlock/riverlock/Windows" = some m.cls := findClass_of_methodNamed Bd.named
  have hnm := (name_of_methodNamed Bd.named Bd.method).1
  have X0 : Stand p l e ({ frames := 1, cells := 0, slots := 0, locals := 17 } : Room) s m #[(.ref o0), (.long j1)] below meth c s₁ [] 0 0 := Stand.of_body Bd
  have e0 : s₁.heap = h0 := by rw [← hh, Bd.state]; rfl
  have N0 := Fr.nil n0
  have pre0 : ∀ t, Steps p.tables e below (s₁.setTop (mkF m 0 #[.val (.ref o0), .val (.long j1), .second] [])) t → Steps p.tables e below (s₁.setTop (entryFrame m #[(.ref o0), (.long j1)] 3)) t := fun t k => castTop (ef_4 m o0 j1) k
  obtain ⟨T1, X1, e1, st1⟩ := getF X0 hx hZ hown (host := "") (Or.inl (hw _ (List.mem_of_getElem? (i := 15) rfl))) Via.refl e0 Fs (g := (mkF m 2 #[.val (.ref o0), .val (.long j1), .second] [(.ref o0), (.long j1)])) rfl rfl (hb hby d4_2)
  obtain ⟨_, _, ⟨T2, L2, k2, n2⟩, -, X2, ⟨Lc2, hQ2, l2, y2, z2⟩, st2⟩ := Jvm.LawKit.callS X1 hx (y := (⟨"com/example/riverlock/riverlock/Windows", "plus", "(JJ)J"⟩ : MethodName)) hown (mvT hZ (hw _ (List.mem_of_getElem? (i := 31) rfl))) (mvT hZ (hw _ (List.mem_of_getElem? (i := 32) rfl))) (mvT hZ (hw _ (List.mem_of_getElem? (i := 3) rfl))) (mvT hZ (hw _ (List.mem_of_getElem? (i := 33) rfl))) (by decide) (backOf (W := 0) (rm3 l Z a0 hw [] j1 v0 h0 n0) hZ (hw _ (List.mem_of_getElem? (i := 33) rfl)) (hw _ (List.mem_of_getElem? (i := 3) rfl)) (by decide) (by decide)) (g := (mkF m 5 #[.val (.ref o0), .val (.long j1), .second] [(.long v0), (.long j1)])) rfl (by rw [hml]; rfl) (argsL := [(.long j1), (.long v0)]) (rest := []) (lenOf pd_1 rfl) rfl (by show 2 * 0 + _ ≤ _; exact Nat.le_of_eq rfl) (hb hby d4_5) (fun _ _ => ⟨rfl, e1, (by decide : 0 + 0 ≤ _), (by decide : 0 + 0 ≤ _)⟩)
  dsimp only [Pt.U, Pt.locs, Pt.cells, Pt.slots] at X2 l2 y2 z2 st2 hQ2
  subst l2 y2 z2
  obtain ⟨rfl, N2q, e2q⟩ := hQ2
  have N2 := Fr.app N0 N2q
  obtain ⟨fs, hr, hrun, hended, hW, hsame⟩ := X2.leave (v := some (.long (f3_5 j1 v0))) (fun h => by rw [Bd.returns] at h; cases h)
  refine ⟨_, _, pre0 _ ?_, hrun, hended, _, _, rfl, ?_, ⟨_, rfl⟩, hW, hsame.mono (by decide) (by decide)⟩
  · show Steps p.tables e below (s₁.setTop (mkF m 0 #[.val (.ref o0), .val (.long j1), .second] [])) _
    refine XS.lloadN X0.here hx rfl (hb hby d4_0) rfl ?_
    show Steps p.tables e below (s₁.setTop (mkF m 1 #[.val (.ref o0), .val (.long j1), .second] [(.long j1)])) _
    refine XS.aloadN X0.here hx rfl (hb hby d4_1) rfl rfl ?_
    show Steps p.tables e below (s₁.setTop (mkF m 2 #[.val (.ref o0), .val (.long j1), .second] [(.ref o0), (.long j1)])) _
    refine st1 _ ?_
    show Steps p.tables e below (T1.setTop (mkF m 5 #[.val (.ref o0), .val (.long j1), .second] [(.long v0), (.long j1)])) _
    refine st2 _ ?_
    show Steps p.tables e below (T2.setTop (mkF m 8 #[.val (.ref o0), .val (.long j1), .second] [(.long (f3_5 j1 v0))])) _
    exact X2.lreturnOut hx Bd.returns (hb hby d4_8) hr
  · show Q4 Z o0 j1 v0 h0 n0 _ T2.heap _
    rw [e2q]
    exact ⟨rfl, N2, rfl⟩
theorem pd_2 : parseMethodDescriptor "(J)J" = some ⟨[.long], some .long⟩ := by decide +kernel
theorem d5_0 : decode prog_33_method_4_code 0 = .ok (.aload_n 0, 1) := by decide +kernel
theorem d5_1 : decode prog_33_method_4_code 1 = .ok (.lload_n 1, 1) := by decide +kernel
theorem d5_2 : decode prog_33_method_4_code 2 = .ok (.invokevirtual 42, 3) := by decide +kernel
theorem d5_5 : decode prog_33_method_4_code 5 = .ok (.aload_n 0, 1) := by decide +kernel
theorem d5_6 : decode prog_33_method_4_code 6 = .ok (.getfield 16, 3) := by decide +kernel
theorem d5_9 : decode prog_33_method_4_code 9 = .ok (.invokestatic 39, 3) := by decide +kernel
theorem d5_12 : decode prog_33_method_4_code 12 = .ok (.lreturn, 1) := by decide +kernel
theorem ef_5 (m : MethodId) (x0 : Addr) (x1 : Int64) : entryFrame m #[(.ref x0), (.long x1)] 3 = mkF m 0 #[.val (.ref x0), .val (.long x1), .second] [] := by first | (simp [entryFrame, mkF, argsToLocals, Value.category]; done) | rfl
def Q5 (Z : State) (o0 : Addr) (j1 : Int64) (v0 : Int64) (v1 : Int64) (h0 : Heap) (n0 : Nat) (v : Option Value) (h : Heap) (L : List Loc) : Prop := v = some (.long (f3_5 (f3_5 j1 v0) v1)) ∧ Fr n0 L ∧ h = h0
set_option maxRecDepth 65536 in
set_option maxHeartbeats 40000000 in
theorem rm5 (l : Launch) (Z : State) (a0 : Array Value) (hw : ∀ d ∈ tables_1, d.before a0 Z = true) (ws : List Jvm.Cond) (o0 : Addr) (j1 : Int64) (v0 : Int64) (v1 : Int64) (h0 : Heap) (n0 : Nat) (Fs : Fld Z h0 o0 "com/example/riverlock/riverlock/Windows" "size" "J" (.long v0)) (Fg : Fld Z h0 o0 "com/example/riverlock/riverlock/Windows" "grace" "J" (.long v1)) (Ex : Exa Z h0 o0 "com/example/riverlock/riverlock/Windows") :
    MetFree l (⟨"com/example/riverlock/riverlock/Windows", "closes", "(J)J"⟩ : MethodName) (head1 (Jvm.Cond.code (⟨"com/example/riverlock/riverlock/Windows", "closes", "(J)J"⟩ : MethodName) prog_33_method_4_code 3 (some .long) :: ws) ({ frames := 2, cells := 0, slots := 0, locals := 31 } : Room)) (fun a U => a = #[(.ref o0), (.long j1)] ∧ Z.Warmed39 U.vm ∧ U.heap = h0) (fun _ _ _ _ _ => True) (fun _ U o U' => ∃ v L, o = .returned v ∧ Q5 Z o0 j1 v0 v1 h0 n0 v U'.heap L ∧ FrameEnd U o U' L ({ frames := 2, cells := 0, slots := 0, locals := 31 } : Room).cells ({ frames := 2, cells := 0, slots := 0, locals := 31 } : Room).slots) := by
  refine MetFree.of_bodySF (plainFor_of_name pn_1) hisR ?_
  intro p e s m args below meth c s₁ Bd hml0 hP hK
  obtain ⟨rfl, hZ, hh⟩ := hP
  have hx := Bd.exec
  have hby := Bd.bytes
  have hml : c.maxLocals = 3 := hml0
  have hown : s.vm.findClass "com/example/riverlock/riverlock/Windows" = some m.cls := findClass_of_methodNamed Bd.named
  have hnm := (name_of_methodNamed Bd.named Bd.method).1
  have X0 : Stand p l e ({ frames := 2, cells := 0, slots := 0, locals := 31 } : Room) s m #[(.ref o0), (.long j1)] below meth c s₁ [] 0 0 := Stand.of_body Bd
  have e0 : s₁.heap = h0 := by rw [← hh, Bd.state]; rfl
  have N0 := Fr.nil n0
  have pre0 : ∀ t, Steps p.tables e below (s₁.setTop (mkF m 0 #[.val (.ref o0), .val (.long j1), .second] [])) t → Steps p.tables e below (s₁.setTop (entryFrame m #[(.ref o0), (.long j1)] 3)) t := fun t k => castTop (ef_5 m o0 j1) k
  obtain ⟨cq1, kq1, q1a, q1b, q1c⟩ := isOf hZ e0 Ex
  obtain ⟨_, _, ⟨T1, L1, k1, n1⟩, -, X1, ⟨Lc1, hQ1, l1, y1, z1⟩, st1⟩ := X0.virtualBack hx (y := (⟨"com/example/riverlock/riverlock/Windows", "end", "(J)J"⟩ : MethodName)) (z := (⟨"com/example/riverlock/riverlock/Windows", "end", "(J)J"⟩ : MethodName)) hown (mvT hZ (hw _ (List.mem_of_getElem? (i := 26) rfl))) (mvT hZ (hw _ (List.mem_of_getElem? (i := 27) rfl))) (notFace_of_selects (args := #[]) (mvT hZ (hw _ (List.mem_of_getElem? (i := 29) rfl)))) (mvT hZ (hw _ (List.mem_of_getElem? (i := 29) rfl))) (mvT hZ (hw _ (List.mem_of_getElem? (i := 28) rfl))) (by decide) (backOf (W := 0) (rm4 l Z a0 hw [] o0 j1 v0 h0 n0 Fs) hZ (hw _ (List.mem_of_getElem? (i := 30) rfl)) (hw _ (List.mem_of_getElem? (i := 3) rfl)) (by decide) (by decide)) q1a q1c (g := (mkF m 2 #[.val (.ref o0), .val (.long j1), .second] [(.long j1), (.ref o0)])) rfl (by rw [hml]; rfl) (Steps.refl _) (argsL := [(.long j1)]) (rest := []) (lenOf pd_2 rfl) rfl (by show 2 * 0 + _ ≤ _; exact Nat.le_of_eq rfl) (hb hby d5_2) (fun _ _ => ⟨rfl, e0, (by decide : 0 + 0 ≤ _), (by decide : 0 + 0 ≤ _)⟩)
  dsimp only [Pt.U, Pt.locs, Pt.cells, Pt.slots] at X1 l1 y1 z1 st1 hQ1
  subst l1 y1 z1
  obtain ⟨rfl, N1q, e1q⟩ := hQ1
  have N1 := Fr.app N0 N1q
  obtain ⟨T2, X2, e2, st2⟩ := getF X1 hx hZ hown (host := "") (Or.inl (hw _ (List.mem_of_getElem? (i := 19) rfl))) Via.refl e1q Fg (g := (mkF m 6 #[.val (.ref o0), .val (.long j1), .second] [(.ref o0), (.long (f3_5 j1 v0))])) rfl rfl (hb hby d5_6)
  obtain ⟨_, _, ⟨T3, L3, k3, n3⟩, -, X3, ⟨Lc3, hQ3, l3, y3, z3⟩, st3⟩ := Jvm.LawKit.callS X2 hx (y := (⟨"com/example/riverlock/riverlock/Windows", "plus", "(JJ)J"⟩ : MethodName)) hown (mvT hZ (hw _ (List.mem_of_getElem? (i := 31) rfl))) (mvT hZ (hw _ (List.mem_of_getElem? (i := 32) rfl))) (mvT hZ (hw _ (List.mem_of_getElem? (i := 3) rfl))) (mvT hZ (hw _ (List.mem_of_getElem? (i := 33) rfl))) (by decide) (backOf (W := 0) (rm3 l Z a0 hw [] (f3_5 j1 v0) v1 h0 n0) hZ (hw _ (List.mem_of_getElem? (i := 33) rfl)) (hw _ (List.mem_of_getElem? (i := 3) rfl)) (by decide) (by decide)) (g := (mkF m 9 #[.val (.ref o0), .val (.long j1), .second] [(.long v1), (.long (f3_5 j1 v0))])) rfl (by rw [hml]; rfl) (argsL := [(.long (f3_5 j1 v0)), (.long v1)]) (rest := []) (lenOf pd_1 rfl) rfl (by show 2 * 0 + _ ≤ _; exact Nat.le_of_eq rfl) (hb hby d5_9) (fun _ _ => ⟨rfl, e2, (by decide : 0 + 0 ≤ _), (by decide : 0 + 0 ≤ _)⟩)
  dsimp only [Pt.U, Pt.locs, Pt.cells, Pt.slots] at X3 l3 y3 z3 st3 hQ3
  subst l3 y3 z3
  obtain ⟨rfl, N3q, e3q⟩ := hQ3
  have N3 := Fr.app N1 N3q
  obtain ⟨fs, hr, hrun, hended, hW, hsame⟩ := X3.leave (v := some (.long (f3_5 (f3_5 j1 v0) v1))) (fun h => by rw [Bd.returns] at h; cases h)
  refine ⟨_, _, pre0 _ ?_, hrun, hended, _, _, rfl, ?_, ⟨_, rfl⟩, hW, hsame.mono (by decide) (by decide)⟩
  · show Steps p.tables e below (s₁.setTop (mkF m 0 #[.val (.ref o0), .val (.long j1), .second] [])) _
    refine XS.aloadN X0.here hx rfl (hb hby d5_0) rfl rfl ?_
    show Steps p.tables e below (s₁.setTop (mkF m 1 #[.val (.ref o0), .val (.long j1), .second] [(.ref o0)])) _
    refine XS.lloadN X0.here hx rfl (hb hby d5_1) rfl ?_
    show Steps p.tables e below (s₁.setTop (mkF m 2 #[.val (.ref o0), .val (.long j1), .second] [(.long j1), (.ref o0)])) _
    refine st1.trans ?_
    show Steps p.tables e below (T1.setTop (mkF m 5 #[.val (.ref o0), .val (.long j1), .second] [(.long (f3_5 j1 v0))])) _
    refine XS.aloadN X1.here hx rfl (hb hby d5_5) rfl rfl ?_
    show Steps p.tables e below (T1.setTop (mkF m 6 #[.val (.ref o0), .val (.long j1), .second] [(.ref o0), (.long (f3_5 j1 v0))])) _
    refine st2 _ ?_
    show Steps p.tables e below (T2.setTop (mkF m 9 #[.val (.ref o0), .val (.long j1), .second] [(.long v1), (.long (f3_5 j1 v0))])) _
    refine st3 _ ?_
    show Steps p.tables e below (T3.setTop (mkF m 12 #[.val (.ref o0), .val (.long j1), .second] [(.long (f3_5 (f3_5 j1 v0) v1))])) _
    exact X3.lreturnOut hx Bd.returns (hb hby d5_12) hr
  · show Q5 Z o0 j1 v0 v1 h0 n0 _ T3.heap _
    rw [e3q]
    exact ⟨rfl, N3, rfl⟩
def f6_0 (j0 : Int64) (j1 : Int64) : Int64 := (if ((9223372036854775807 : Int64) - j1) < j0 then (9223372036854775807 : Int64) else (j0 + j1))
theorem d6_0 : decode method_2_code 0 = .ok (.lload_n 0, 1) := by decide +kernel
theorem d6_1 : decode method_2_code 1 = .ok (.ldc2_w 9, 3) := by decide +kernel
theorem d6_4 : decode method_2_code 4 = .ok (.lload_n 2, 1) := by decide +kernel
theorem d6_5 : decode method_2_code 5 = .ok (.lsub, 1) := by decide +kernel
theorem d6_6 : decode method_2_code 6 = .ok (.lcmp, 1) := by decide +kernel
theorem d6_7 : decode method_2_code 7 = .ok (.ifCond .le 7, 3) := by decide +kernel
theorem d6_10 : decode method_2_code 10 = .ok (.ldc2_w 9, 3) := by decide +kernel
theorem d6_13 : decode method_2_code 13 = .ok (.lreturn, 1) := by decide +kernel
theorem d6_14 : decode method_2_code 14 = .ok (.lload_n 0, 1) := by decide +kernel
theorem d6_15 : decode method_2_code 15 = .ok (.lload_n 2, 1) := by decide +kernel
theorem d6_16 : decode method_2_code 16 = .ok (.ladd, 1) := by decide +kernel
theorem d6_17 : decode method_2_code 17 = .ok (.lreturn, 1) := by decide +kernel
theorem pn_2 : plainName "com/example/riverlock/riverlock/WindowsClosesPinLaw" = true := by first | (simp [plainName, overriddenIn]; done) | decide +kernel
theorem ef_6 (m : MethodId) (x0 : Int64) (x1 : Int64) : entryFrame m #[(.long x0), (.long x1)] 4 = mkF m 0 #[.val (.long x0), .second, .val (.long x1), .second] [] := by first | (simp [entryFrame, mkF, argsToLocals, Value.category]; done) | rfl
def Q6 (Z : State) (j0 : Int64) (j1 : Int64) (h0 : Heap) (n0 : Nat) (v : Option Value) (h : Heap) (L : List Loc) : Prop := v = some (.long (f6_0 j0 j1)) ∧ Fr n0 L ∧ h = h0
set_option maxRecDepth 65536 in
set_option maxHeartbeats 40000000 in
theorem rm6 (l : Launch) (Z : State) (a0 : Array Value) (hw : ∀ d ∈ tables_1, d.before a0 Z = true) (ws : List Jvm.Cond) (j0 : Int64) (j1 : Int64) (h0 : Heap) (n0 : Nat) :
    MetFree l (⟨"com/example/riverlock/riverlock/WindowsClosesPinLaw", "satAdd", "(JJ)J"⟩ : MethodName) (head1 (Jvm.Cond.code (⟨"com/example/riverlock/riverlock/WindowsClosesPinLaw", "satAdd", "(JJ)J"⟩ : MethodName) method_2_code 4 (some .long) :: ws) ({ frames := 0, cells := 0, slots := 0, locals := 0 } : Room)) (fun a U => a = #[(.long j0), (.long j1)] ∧ Z.Warmed39 U.vm ∧ U.heap = h0) (fun _ _ _ _ _ => True) (fun _ U o U' => ∃ v L, o = .returned v ∧ Q6 Z j0 j1 h0 n0 v U'.heap L ∧ FrameEnd U o U' L ({ frames := 0, cells := 0, slots := 0, locals := 0 } : Room).cells ({ frames := 0, cells := 0, slots := 0, locals := 0 } : Room).slots) := by
  refine MetFree.of_bodySF (plainFor_of_name pn_2) hisR ?_
  intro p e s m args below meth c s₁ Bd hml0 hP hK
  obtain ⟨rfl, hZ, hh⟩ := hP
  have hx := Bd.exec
  have hby := Bd.bytes
  have hml : c.maxLocals = 4 := hml0
  have hown : s.vm.findClass "com/example/riverlock/riverlock/WindowsClosesPinLaw" = some m.cls := findClass_of_methodNamed Bd.named
  have hnm := (name_of_methodNamed Bd.named Bd.method).1
  have X0 : Stand p l e ({ frames := 0, cells := 0, slots := 0, locals := 0 } : Room) s m #[(.long j0), (.long j1)] below meth c s₁ [] 0 0 := Stand.of_body Bd
  have e0 : s₁.heap = h0 := by rw [← hh, Bd.state]; rfl
  have N0 := Fr.nil n0
  have pre0 : ∀ t, Steps p.tables e below (s₁.setTop (mkF m 0 #[.val (.long j0), .second, .val (.long j1), .second] [])) t → Steps p.tables e below (s₁.setTop (entryFrame m #[(.long j0), (.long j1)] 4)) t := fun t k => castTop (ef_6 m j0 j1) k
  have sg0 : ∀ {fs : List Frame}, own_RetTo e s₁ m (some (.long (f6_0 j0 j1))) fs → Steps p.tables e below (s₁.setTop (mkF m 0 #[.val (.long j0), .second, .val (.long j1), .second] [])) (s₁.setFrames fs) := by
    intro fs hr
    show Steps p.tables e below (s₁.setTop (mkF m 0 #[.val (.long j0), .second, .val (.long j1), .second] [])) _
    refine XS.lloadN X0.here hx rfl (hb hby d6_0) rfl ?_
    show Steps p.tables e below (s₁.setTop (mkF m 1 #[.val (.long j0), .second, .val (.long j1), .second] [(.long j0)])) _
    refine X0.ldc2Long hx hown (mvT hZ (hw _ (List.mem_of_getElem? (i := 0) rfl))) (g := (mkF m 1 #[.val (.long j0), .second, .val (.long j1), .second] [(.long j0)])) rfl (hb hby d6_1) _ ?_
    show Steps p.tables e below (s₁.setTop (mkF m 4 #[.val (.long j0), .second, .val (.long j1), .second] [(.long (9223372036854775807 : Int64)), (.long j0)])) _
    refine XS.lloadN X0.here hx rfl (hb hby d6_4) rfl ?_
    show Steps p.tables e below (s₁.setTop (mkF m 5 #[.val (.long j0), .second, .val (.long j1), .second] [(.long j1), (.long (9223372036854775807 : Int64)), (.long j0)])) _
    refine XS.lsub X0.here hx rfl (hb hby d6_5) rfl ?_
    show Steps p.tables e below (s₁.setTop (mkF m 6 #[.val (.long j0), .second, .val (.long j1), .second] [(.long ((9223372036854775807 : Int64) - j1)), (.long j0)])) _
    refine XS.lcmp X0.here hx rfl (hb hby d6_6) rfl ?_
    show Steps p.tables e below (s₁.setTop (mkF m 7 #[.val (.long j0), .second, .val (.long j1), .second] [(.int (lcmpW j0 ((9223372036854775807 : Int64) - j1)))])) _
    by_cases hc7 : ((9223372036854775807 : Int64) - j1) < j0
    · refine XS.ifNo X0.here hx rfl (hb hby d6_7) rfl ((if0 _ _).trans (tlt ((lw_gt j0 ((9223372036854775807 : Int64) - j1)).mpr hc7)).2.2.2) ?_
      show Steps p.tables e below (s₁.setTop (mkF m 10 #[.val (.long j0), .second, .val (.long j1), .second] [])) _
      refine X0.ldc2Long hx hown (mvT hZ (hw _ (List.mem_of_getElem? (i := 0) rfl))) (g := (mkF m 10 #[.val (.long j0), .second, .val (.long j1), .second] [])) rfl (hb hby d6_10) _ ?_
      have hv : f6_0 j0 j1 = (9223372036854775807 : Int64) := by unfold f6_0; rw [if_pos hc7]
      rw [hv] at hr
      show Steps p.tables e below (s₁.setTop (mkF m 13 #[.val (.long j0), .second, .val (.long j1), .second] [(.long (9223372036854775807 : Int64))])) _
      exact X0.lreturnOut hx Bd.returns (hb hby d6_13) hr
    · refine XS.ifYes X0.here hx rfl (pc0 := 7) (pc' := 14) rfl (hb hby d6_7) rfl ((if0 _ _).trans (flt (fun q => hc7 ((lw_gt j0 ((9223372036854775807 : Int64) - j1)).mp q))).2.2.2) (by decide) (by decide) ?_
      show Steps p.tables e below (s₁.setTop (mkF m 14 #[.val (.long j0), .second, .val (.long j1), .second] [])) _
      refine XS.lloadN X0.here hx rfl (hb hby d6_14) rfl ?_
      show Steps p.tables e below (s₁.setTop (mkF m 15 #[.val (.long j0), .second, .val (.long j1), .second] [(.long j0)])) _
      refine XS.lloadN X0.here hx rfl (hb hby d6_15) rfl ?_
      show Steps p.tables e below (s₁.setTop (mkF m 16 #[.val (.long j0), .second, .val (.long j1), .second] [(.long j1), (.long j0)])) _
      refine XS.ladd X0.here hx rfl (hb hby d6_16) rfl ?_
      have hv : f6_0 j0 j1 = (j0 + j1) := by unfold f6_0; rw [if_neg hc7]
      rw [hv] at hr
      show Steps p.tables e below (s₁.setTop (mkF m 17 #[.val (.long j0), .second, .val (.long j1), .second] [(.long (j0 + j1))])) _
      exact X0.lreturnOut hx Bd.returns (hb hby d6_17) hr
  obtain ⟨fs, hr, hrun, hended, hW, hsame⟩ := X0.leave (v := some (.long (f6_0 j0 j1))) (fun h => by rw [Bd.returns] at h; cases h)
  refine ⟨_, _, pre0 _ ?_, hrun, hended, _, _, rfl, ?_, ⟨_, rfl⟩, hW, hsame.mono (by decide) (by decide)⟩
  · show Steps p.tables e below (s₁.setTop (mkF m 0 #[.val (.long j0), .second, .val (.long j1), .second] [])) _
    exact sg0 hr
  · show Q6 Z j0 j1 h0 n0 _ s₁.heap _
    rw [e0]
    exact ⟨rfl, N0, rfl⟩
def g_size (us : Int64) : Int64 := (if (us &&& (9223372036854775807 : Int64)) = (0 : Int64) then (1 : Int64) else (us &&& (9223372036854775807 : Int64)))
theorem own_pos (us : Int64) : 0 < (g_size us).toInt := by
  unfold g_size
  have h1 := c_maskL us 9223372036854775807 63 (by decide) (by decide)
  split
  · decide
  · rename_i h
    rw [← Int64.toInt_inj, show (0 : Int64).toInt = 0 from rfl] at h
    omega
theorem own_nz (us : Int64) : g_size us ≠ 0 := fun q => by
  have h := own_pos us
  rw [q] at h
  exact absurd h (by decide)
theorem own_grace (ug : Int64) : 0 ≤ (ug &&& (9223372036854775807 : Int64)).toInt := by
  have h1 := c_maskL ug 9223372036854775807 63 (by decide) (by decide)
  omega
theorem own_plus (a b : Int64) (hb : 0 ≤ b.toInt) : f3_5 a b = f6_0 a b := by
  unfold f3_5 f6_0
  have h1 := c_ladd a b
  have h2 := c_lsub 9223372036854775807 b
  have h3 : (9223372036854775807 : Int64).toInt = 9223372036854775807 := rfl
  have r1 := rng64 a
  have r2 := rng64 b
  have r3 := rng64 (a + b)
  have r4 := rng64 (9223372036854775807 - b)
  simp only [Int64.lt_iff_toInt_lt]
  rw [h3] at h2
  by_cases q : (a + b).toInt < a.toInt
  · rw [if_pos q, if_pos (by omega)]
  · rw [if_neg q, if_neg (by omega)]
theorem pd_3 : parseMethodDescriptor "(JJJ)V" = some ⟨[.long, .long, .long], none⟩ := by decide +kernel
theorem own_eq (ut us ug : Int64) : f3_5 (f3_5 ut (g_size us)) (ug &&& (9223372036854775807 : Int64)) = f6_0 (f6_0 ut (g_size us)) (ug &&& (9223372036854775807 : Int64)) := by
  rw [own_plus _ _ (own_grace ug), own_plus _ _ (Int.le_of_lt (own_pos us))]
theorem ef_0 (m : MethodId) (x0 : Int64) (x1 : Int64) (x2 : Int64) (x3 : Int64) : entryFrame m #[(.long x0), (.long x1), (.long x2), (.long x3)] maxLocals = mkF m 0 #[.val (.long x0), .second, .val (.long x1), .second, .val (.long x2), .second, .val (.long x3), .second, .unset, .unset, .unset, .unset, .unset, .unset, .unset, .unset, .unset, .unset, .unset] [] := by first | (simp [entryFrame, mkF, argsToLocals, Value.category, maxLocals]; done) | rfl
def Q0 (Z : State) (ut : Int64) (us : Int64) (ug : Int64) (ua : Int64) (h0 : Heap) (n0 : Nat) (v : Option Value) (h : Heap) (L : List Loc) : Prop := v = some (.int (1 : Int32)) ∧ Fr n0 L
set_option maxRecDepth 65536 in
set_option maxHeartbeats 40000000 in
theorem rm0 (l : Launch) (Z : State) (a0 : Array Value) (hw : ∀ d ∈ tables_1, d.before a0 Z = true) (ws : List Jvm.Cond) (ut : Int64) (us : Int64) (ug : Int64) (ua : Int64) (h0 : Heap) (n0 : Nat) (Z0 : n0 ≤ h0.size) :
    MetFree l x (head1 (Jvm.Cond.code x code maxLocals ret :: ws) room_1) (fun a U => a = #[(.long ut), (.long us), (.long ug), (.long ua)] ∧ Z.Warmed39 U.vm ∧ U.heap = h0) (fun _ _ _ _ _ => True) (fun _ U o U' => ∃ v L, o = .returned v ∧ Q0 Z ut us ug ua h0 n0 v U'.heap L ∧ FrameEnd U o U' L 1 3) := by
  refine MetFree.of_bodySF (plainFor_of_name pn_2) hisR ?_
  intro p e s m args below meth c s₁ Bd hml0 hP hK
  obtain ⟨rfl, hZ, hh⟩ := hP
  have hx := Bd.exec
  have hby := Bd.bytes
  have hml : c.maxLocals = 19 := hml0
  have hown : s.vm.findClass "com/example/riverlock/riverlock/WindowsClosesPinLaw" = some m.cls := findClass_of_methodNamed Bd.named
  have hnm := (name_of_methodNamed Bd.named Bd.method).1
  have X0 : Stand p l e room_1 s m #[(.long ut), (.long us), (.long ug), (.long ua)] below meth c s₁ [] 0 0 := Stand.of_body Bd
  have e0 : s₁.heap = h0 := by rw [← hh, Bd.state]; rfl
  have N0 := Fr.nil n0
  have pre0 : ∀ t, Steps p.tables e below (s₁.setTop (mkF m 0 #[.val (.long ut), .second, .val (.long us), .second, .val (.long ug), .second, .val (.long ua), .second, .unset, .unset, .unset, .unset, .unset, .unset, .unset, .unset, .unset, .unset, .unset] [])) t → Steps p.tables e below (s₁.setTop (entryFrame m #[(.long ut), (.long us), (.long ug), (.long ua)] maxLocals)) t := fun t k => castTop (ef_0 m ut us ug ua) k
  have sg7 : ∀ t, Steps p.tables e below (s₁.setTop (mkF m 17 #[.val (.long ut), .second, .val (.long us), .second, .val (.long ug), .second, .val (.long ua), .second, .val (.long (g_size us)), .second, .unset, .unset, .unset, .unset, .unset, .unset, .unset, .unset, .unset] [])) t → Steps p.tables e below (s₁.setTop (mkF m 7 #[.val (.long ut), .second, .val (.long us), .second, .val (.long ug), .second, .val (.long ua), .second, .val (.long (us &&& (9223372036854775807 : Int64))), .second, .unset, .unset, .unset, .unset, .unset, .unset, .unset, .unset, .unset] [])) t := by
    intro t kt
    show Steps p.tables e below (s₁.setTop (mkF m 7 #[.val (.long ut), .second, .val (.long us), .second, .val (.long ug), .second, .val (.long ua), .second, .val (.long (us &&& (9223372036854775807 : Int64))), .second, .unset, .unset, .unset, .unset, .unset, .unset, .unset, .unset, .unset] [])) _
    refine XS.lload X0.here hx rfl (hb hby at_7) rfl ?_
    show Steps p.tables e below (s₁.setTop (mkF m 9 #[.val (.long ut), .second, .val (.long us), .second, .val (.long ug), .second, .val (.long ua), .second, .val (.long (us &&& (9223372036854775807 : Int64))), .second, .unset, .unset, .unset, .unset, .unset, .unset, .unset, .unset, .unset] [(.long (us &&& (9223372036854775807 : Int64)))])) _
    refine XS.lconst X0.here hx rfl (hb hby at_9) ?_
    show Steps p.tables e below (s₁.setTop (mkF m 10 #[.val (.long ut), .second, .val (.long us), .second, .val (.long ug), .second, .val (.long ua), .second, .val (.long (us &&& (9223372036854775807 : Int64))), .second, .unset, .unset, .unset, .unset, .unset, .unset, .unset, .unset, .unset] [(.long (0 : Int64)), (.long (us &&& (9223372036854775807 : Int64)))])) _
    refine XS.lcmp X0.here hx rfl (hb hby at_10) rfl ?_
    show Steps p.tables e below (s₁.setTop (mkF m 11 #[.val (.long ut), .second, .val (.long us), .second, .val (.long ug), .second, .val (.long ua), .second, .val (.long (us &&& (9223372036854775807 : Int64))), .second, .unset, .unset, .unset, .unset, .unset, .unset, .unset, .unset, .unset] [(.int (lcmpW (us &&& (9223372036854775807 : Int64)) (0 : Int64)))])) _
    by_cases hc11 : (us &&& (9223372036854775807 : Int64)) = (0 : Int64)
    · refine XS.ifNo X0.here hx rfl (hb hby at_11) rfl ((if0 _ _).trans (teq ((lw_eq (us &&& (9223372036854775807 : Int64)) (0 : Int64)).mpr hc11)).2) ?_
      show Steps p.tables e below (s₁.setTop (mkF m 14 #[.val (.long ut), .second, .val (.long us), .second, .val (.long ug), .second, .val (.long ua), .second, .val (.long (us &&& (9223372036854775807 : Int64))), .second, .unset, .unset, .unset, .unset, .unset, .unset, .unset, .unset, .unset] [])) _
      refine XS.lconst X0.here hx rfl (hb hby at_14) ?_
      show Steps p.tables e below (s₁.setTop (mkF m 15 #[.val (.long ut), .second, .val (.long us), .second, .val (.long ug), .second, .val (.long ua), .second, .val (.long (us &&& (9223372036854775807 : Int64))), .second, .unset, .unset, .unset, .unset, .unset, .unset, .unset, .unset, .unset] [(.long (1 : Int64))])) _
      refine XS.lstore X0.here hx rfl (hb hby at_15) rfl (l' := #[.val (.long ut), .second, .val (.long us), .second, .val (.long ug), .second, .val (.long ua), .second, .val (.long (1 : Int64)), .second, .unset, .unset, .unset, .unset, .unset, .unset, .unset, .unset, .unset]) rfl ?_
      have hv : g_size us = (1 : Int64) := by unfold g_size; rw [if_pos hc11]
      rw [hv] at kt
      exact kt
    · refine XS.ifYes X0.here hx rfl (pc0 := 11) (pc' := 17) rfl (hb hby at_11) rfl ((if0 _ _).trans (feq (fun q => hc11 ((lw_eq (us &&& (9223372036854775807 : Int64)) (0 : Int64)).mp q))).2) (by decide) (by decide) ?_
      have hv : g_size us = (us &&& (9223372036854775807 : Int64)) := by unfold g_size; rw [if_neg hc11]
      rw [hv] at kt
      exact kt
  obtain ⟨T1, h1, X1, e1, E1, E_ob, D1, -, st1⟩ := newO X0 hx hZ hown (hw _ (List.mem_of_getElem? (i := 1) rfl)) (hw _ (List.mem_of_getElem? (i := 2) rfl)) (hw _ (List.mem_of_getElem? (i := 3) rfl)) e0 (g := (mkF m 38 #[.val (.long ut), .second, .val (.long us), .second, .val (.long ug), .second, .val (.long ua), .second, .val (.long (g_size us)), .second, .val (.long (ug &&& (9223372036854775807 : Int64))), .second, .val (.long ((1 : Int64) + ((ua &&& (9223372036854775807 : Int64)) - ((ua &&& (9223372036854775807 : Int64)) / (g_size us)) * (g_size us)))), .second, .unset, .unset, .unset, .unset, .unset] [])) rfl (hb hby at_38) (by decide) (by decide)
  obtain ⟨ob, sz_ob⟩ : ∃ z, z = h0.size := ⟨_, rfl⟩
  rw [← sz_ob] at E_ob D1 st1
  have F_size_ob : Fld Z h1 ob "com/example/riverlock/riverlock/Windows" "size" "J" (.long (0 : Int64)) := D1 (Or.inr (hw _ (List.mem_of_getElem? (i := 16) rfl))) (ty := .long) (by decide)
  have F_advance_ob : Fld Z h1 ob "com/example/riverlock/riverlock/Windows" "advance" "J" (.long (0 : Int64)) := D1 (Or.inr (hw _ (List.mem_of_getElem? (i := 18) rfl))) (ty := .long) (by decide)
  have F_grace_ob : Fld Z h1 ob "com/example/riverlock/riverlock/Windows" "grace" "J" (.long (0 : Int64)) := D1 (Or.inr (hw _ (List.mem_of_getElem? (i := 20) rfl))) (ty := .long) (by decide)
  have g_ob : n0 ≤ ob := Nat.le_trans Z0 (Nat.le_of_eq sz_ob.symm)
  have Zp2 : n0 ≤ h1.size := Nat.le_trans Z0 E1.1
  obtain ⟨_, _, ⟨T3, L3, k3, n3⟩, -, X3, ⟨Lc3, hQ3, l3, y3, z3⟩, st3⟩ := X1.specialBack hx (y := (⟨"com/example/riverlock/riverlock/Windows", "<init>", "(JJJ)V"⟩ : MethodName)) rfl hown (mvT hZ (hw _ (List.mem_of_getElem? (i := 4) rfl))) (mvT hZ (hw _ (List.mem_of_getElem? (i := 5) rfl))) (mvT hZ (hw _ (List.mem_of_getElem? (i := 6) rfl))) (by decide) (backOf (W := 1) (rm2 l Z a0 hw [] ob (g_size us) ((1 : Int64) + ((ua &&& (9223372036854775807 : Int64)) - ((ua &&& (9223372036854775807 : Int64)) / (g_size us)) * (g_size us))) (ug &&& (9223372036854775807 : Int64)) h1 n0 F_size_ob F_advance_ob F_grace_ob E_ob g_ob) hZ (hw _ (List.mem_of_getElem? (i := 6) rfl)) (hw _ (List.mem_of_getElem? (i := 3) rfl)) (by decide) (by decide)) (g := (mkF m 48 #[.val (.long ut), .second, .val (.long us), .second, .val (.long ug), .second, .val (.long ua), .second, .val (.long (g_size us)), .second, .val (.long (ug &&& (9223372036854775807 : Int64))), .second, .val (.long ((1 : Int64) + ((ua &&& (9223372036854775807 : Int64)) - ((ua &&& (9223372036854775807 : Int64)) / (g_size us)) * (g_size us)))), .second, .unset, .unset, .unset, .unset, .unset] [(.long (ug &&& (9223372036854775807 : Int64))), (.long ((1 : Int64) + ((ua &&& (9223372036854775807 : Int64)) - ((ua &&& (9223372036854775807 : Int64)) / (g_size us)) * (g_size us)))), (.long (g_size us)), (.ref ob), (.ref ob)])) rfl (by rw [hml]; rfl) (Steps.refl _) (a := ob) (argsL := [(.long (g_size us)), (.long ((1 : Int64) + ((ua &&& (9223372036854775807 : Int64)) - ((ua &&& (9223372036854775807 : Int64)) / (g_size us)) * (g_size us)))), (.long (ug &&& (9223372036854775807 : Int64)))]) (rest := [(.ref ob)]) (lenOf pd_3 rfl) rfl (by show 2 * 0 + _ ≤ _; exact Nat.le_of_eq rfl) (hb hby at_48) (fun _ _ => ⟨rfl, e1, (by decide : 1 + 0 ≤ _), (by decide : 3 + 0 ≤ _)⟩)
  dsimp only [Pt.U, Pt.locs, Pt.cells, Pt.slots] at X3 l3 y3 z3 st3 hQ3
  subst l3 y3 z3
  obtain ⟨rfl, N3q, K3, Eb3, Fs3, Fg3⟩ := hQ3
  have N3 := Fr.app N0 N3q
  obtain ⟨cq4, kq4, q4a, q4b, q4c⟩ := isOf hZ rfl Eb3
  obtain ⟨_, _, ⟨T4, L4, k4, n4⟩, -, X4, ⟨Lc4, hQ4, l4, y4, z4⟩, st4⟩ := X3.virtualBack hx (y := (⟨"com/example/riverlock/riverlock/Windows", "closes", "(J)J"⟩ : MethodName)) (z := (⟨"com/example/riverlock/riverlock/Windows", "closes", "(J)J"⟩ : MethodName)) hown (mvT hZ (hw _ (List.mem_of_getElem? (i := 21) rfl))) (mvT hZ (hw _ (List.mem_of_getElem? (i := 22) rfl))) (notFace_of_selects (args := #[]) (mvT hZ (hw _ (List.mem_of_getElem? (i := 24) rfl)))) (mvT hZ (hw _ (List.mem_of_getElem? (i := 24) rfl))) (mvT hZ (hw _ (List.mem_of_getElem? (i := 23) rfl))) (by decide) (backOf (W := 0) (rm5 l Z a0 hw [] ob ut (g_size us) (ug &&& (9223372036854775807 : Int64)) T3.heap n0 Fs3 Fg3 Eb3) hZ (hw _ (List.mem_of_getElem? (i := 25) rfl)) (hw _ (List.mem_of_getElem? (i := 3) rfl)) (by decide) (by decide)) q4a q4c (g := (mkF m 56 #[.val (.long ut), .second, .val (.long us), .second, .val (.long ug), .second, .val (.long ua), .second, .val (.long (g_size us)), .second, .val (.long (ug &&& (9223372036854775807 : Int64))), .second, .val (.long ((1 : Int64) + ((ua &&& (9223372036854775807 : Int64)) - ((ua &&& (9223372036854775807 : Int64)) / (g_size us)) * (g_size us)))), .second, .val (.ref ob), .unset, .unset, .unset, .unset] [(.long ut), (.ref ob)])) rfl (by rw [hml]; rfl) (Steps.refl _) (argsL := [(.long ut)]) (rest := []) (lenOf pd_2 rfl) rfl (by show 2 * 0 + _ ≤ _; exact Nat.le_of_eq rfl) (hb hby at_56) (fun _ _ => ⟨rfl, rfl, (by decide : 1 + 0 ≤ _), (by decide : 3 + 0 ≤ _)⟩)
  dsimp only [Pt.U, Pt.locs, Pt.cells, Pt.slots] at X4 l4 y4 z4 st4 hQ4
  subst l4 y4 z4
  obtain ⟨rfl, N4q, e4q⟩ := hQ4
  have N4 := Fr.app N3 N4q
  obtain ⟨_, _, ⟨T5, L5, k5, n5⟩, -, X5, ⟨Lc5, hQ5, l5, y5, z5⟩, st5⟩ := Jvm.LawKit.callS X4 hx (y := (⟨"com/example/riverlock/riverlock/WindowsClosesPinLaw", "satAdd", "(JJ)J"⟩ : MethodName)) hown (mvT hZ (hw _ (List.mem_of_getElem? (i := 34) rfl))) (mvT hZ (hw _ (List.mem_of_getElem? (i := 35) rfl))) (mvT hZ (hw _ (List.mem_of_getElem? (i := 36) rfl))) (mvT hZ (hw _ (List.mem_of_getElem? (i := 37) rfl))) (by decide) (backOf (W := 0) (rm6 l Z a0 hw [] ut (g_size us) T3.heap n0) hZ (hw _ (List.mem_of_getElem? (i := 37) rfl)) (hw _ (List.mem_of_getElem? (i := 36) rfl)) (by decide) (by decide)) (g := (mkF m 64 #[.val (.long ut), .second, .val (.long us), .second, .val (.long ug), .second, .val (.long ua), .second, .val (.long (g_size us)), .second, .val (.long (ug &&& (9223372036854775807 : Int64))), .second, .val (.long ((1 : Int64) + ((ua &&& (9223372036854775807 : Int64)) - ((ua &&& (9223372036854775807 : Int64)) / (g_size us)) * (g_size us)))), .second, .val (.ref ob), .val (.long (f3_5 (f3_5 ut (g_size us)) (ug &&& (9223372036854775807 : Int64)))), .second, .unset, .unset] [(.long (g_size us)), (.long ut)])) rfl (by rw [hml]; rfl) (argsL := [(.long ut), (.long (g_size us))]) (rest := []) (lenOf pd_1 rfl) rfl (by show 2 * 0 + _ ≤ _; exact Nat.le_of_eq rfl) (hb hby at_64) (fun _ _ => ⟨rfl, e4q, (by decide : 1 + 0 ≤ _), (by decide : 3 + 0 ≤ _)⟩)
  dsimp only [Pt.U, Pt.locs, Pt.cells, Pt.slots] at X5 l5 y5 z5 st5 hQ5
  subst l5 y5 z5
  obtain ⟨rfl, N5q, e5q⟩ := hQ5
  have N5 := Fr.app N4 N5q
  obtain ⟨_, _, ⟨T6, L6, k6, n6⟩, -, X6, ⟨Lc6, hQ6, l6, y6, z6⟩, st6⟩ := Jvm.LawKit.callS X5 hx (y := (⟨"com/example/riverlock/riverlock/WindowsClosesPinLaw", "satAdd", "(JJ)J"⟩ : MethodName)) hown (mvT hZ (hw _ (List.mem_of_getElem? (i := 34) rfl))) (mvT hZ (hw _ (List.mem_of_getElem? (i := 35) rfl))) (mvT hZ (hw _ (List.mem_of_getElem? (i := 36) rfl))) (mvT hZ (hw _ (List.mem_of_getElem? (i := 37) rfl))) (by decide) (backOf (W := 0) (rm6 l Z a0 hw [] (f6_0 ut (g_size us)) (ug &&& (9223372036854775807 : Int64)) T3.heap n0) hZ (hw _ (List.mem_of_getElem? (i := 37) rfl)) (hw _ (List.mem_of_getElem? (i := 36) rfl)) (by decide) (by decide)) (g := (mkF m 69 #[.val (.long ut), .second, .val (.long us), .second, .val (.long ug), .second, .val (.long ua), .second, .val (.long (g_size us)), .second, .val (.long (ug &&& (9223372036854775807 : Int64))), .second, .val (.long ((1 : Int64) + ((ua &&& (9223372036854775807 : Int64)) - ((ua &&& (9223372036854775807 : Int64)) / (g_size us)) * (g_size us)))), .second, .val (.ref ob), .val (.long (f3_5 (f3_5 ut (g_size us)) (ug &&& (9223372036854775807 : Int64)))), .second, .unset, .unset] [(.long (ug &&& (9223372036854775807 : Int64))), (.long (f6_0 ut (g_size us)))])) rfl (by rw [hml]; rfl) (argsL := [(.long (f6_0 ut (g_size us))), (.long (ug &&& (9223372036854775807 : Int64)))]) (rest := []) (lenOf pd_1 rfl) rfl (by show 2 * 0 + _ ≤ _; exact Nat.le_of_eq rfl) (hb hby at_69) (fun _ _ => ⟨rfl, e5q, (by decide : 1 + 0 ≤ _), (by decide : 3 + 0 ≤ _)⟩)
  dsimp only [Pt.U, Pt.locs, Pt.cells, Pt.slots] at X6 l6 y6 z6 st6 hQ6
  subst l6 y6 z6
  obtain ⟨rfl, N6q, e6q⟩ := hQ6
  have N6 := Fr.app N5 N6q
  obtain ⟨fs, hr, hrun, hended, hW, hsame⟩ := X6.leave (v := some (.int (1 : Int32))) (fun h => by rw [Bd.returns] at h; cases h)
  refine ⟨_, _, pre0 _ ?_, hrun, hended, _, _, rfl, ?_, ⟨_, rfl⟩, hW, hsame.mono (by decide) (by decide)⟩
  · show Steps p.tables e below (s₁.setTop (mkF m 0 #[.val (.long ut), .second, .val (.long us), .second, .val (.long ug), .second, .val (.long ua), .second, .unset, .unset, .unset, .unset, .unset, .unset, .unset, .unset, .unset, .unset, .unset] [])) _
    refine XS.lloadN X0.here hx rfl (hb hby at_0) rfl ?_
    show Steps p.tables e below (s₁.setTop (mkF m 1 #[.val (.long ut), .second, .val (.long us), .second, .val (.long ug), .second, .val (.long ua), .second, .unset, .unset, .unset, .unset, .unset, .unset, .unset, .unset, .unset, .unset, .unset] [(.long us)])) _
    refine X0.ldc2Long hx hown (mvT hZ (hw _ (List.mem_of_getElem? (i := 0) rfl))) (g := (mkF m 1 #[.val (.long ut), .second, .val (.long us), .second, .val (.long ug), .second, .val (.long ua), .second, .unset, .unset, .unset, .unset, .unset, .unset, .unset, .unset, .unset, .unset, .unset] [(.long us)])) rfl (hb hby at_1) _ ?_
    show Steps p.tables e below (s₁.setTop (mkF m 4 #[.val (.long ut), .second, .val (.long us), .second, .val (.long ug), .second, .val (.long ua), .second, .unset, .unset, .unset, .unset, .unset, .unset, .unset, .unset, .unset, .unset, .unset] [(.long (9223372036854775807 : Int64)), (.long us)])) _
    refine XS.land X0.here hx rfl (hb hby at_4) rfl ?_
    show Steps p.tables e below (s₁.setTop (mkF m 5 #[.val (.long ut), .second, .val (.long us), .second, .val (.long ug), .second, .val (.long ua), .second, .unset, .unset, .unset, .unset, .unset, .unset, .unset, .unset, .unset, .unset, .unset] [(.long (us &&& (9223372036854775807 : Int64)))])) _
    refine XS.lstore X0.here hx rfl (hb hby at_5) rfl (l' := #[.val (.long ut), .second, .val (.long us), .second, .val (.long ug), .second, .val (.long ua), .second, .val (.long (us &&& (9223372036854775807 : Int64))), .second, .unset, .unset, .unset, .unset, .unset, .unset, .unset, .unset, .unset]) rfl ?_
    show Steps p.tables e below (s₁.setTop (mkF m 7 #[.val (.long ut), .second, .val (.long us), .second, .val (.long ug), .second, .val (.long ua), .second, .val (.long (us &&& (9223372036854775807 : Int64))), .second, .unset, .unset, .unset, .unset, .unset, .unset, .unset, .unset, .unset] [])) _
    refine sg7 _ ?_
    show Steps p.tables e below (s₁.setTop (mkF m 17 #[.val (.long ut), .second, .val (.long us), .second, .val (.long ug), .second, .val (.long ua), .second, .val (.long (g_size us)), .second, .unset, .unset, .unset, .unset, .unset, .unset, .unset, .unset, .unset] [])) _
    refine XS.lload X0.here hx rfl (hb hby at_17) rfl ?_
    show Steps p.tables e below (s₁.setTop (mkF m 19 #[.val (.long ut), .second, .val (.long us), .second, .val (.long ug), .second, .val (.long ua), .second, .val (.long (g_size us)), .second, .unset, .unset, .unset, .unset, .unset, .unset, .unset, .unset, .unset] [(.long ug)])) _
    refine X0.ldc2Long hx hown (mvT hZ (hw _ (List.mem_of_getElem? (i := 0) rfl))) (g := (mkF m 19 #[.val (.long ut), .second, .val (.long us), .second, .val (.long ug), .second, .val (.long ua), .second, .val (.long (g_size us)), .second, .unset, .unset, .unset, .unset, .unset, .unset, .unset, .unset, .unset] [(.long ug)])) rfl (hb hby at_19) _ ?_
    show Steps p.tables e below (s₁.setTop (mkF m 22 #[.val (.long ut), .second, .val (.long us), .second, .val (.long ug), .second, .val (.long ua), .second, .val (.long (g_size us)), .second, .unset, .unset, .unset, .unset, .unset, .unset, .unset, .unset, .unset] [(.long (9223372036854775807 : Int64)), (.long ug)])) _
    refine XS.land X0.here hx rfl (hb hby at_22) rfl ?_
    show Steps p.tables e below (s₁.setTop (mkF m 23 #[.val (.long ut), .second, .val (.long us), .second, .val (.long ug), .second, .val (.long ua), .second, .val (.long (g_size us)), .second, .unset, .unset, .unset, .unset, .unset, .unset, .unset, .unset, .unset] [(.long (ug &&& (9223372036854775807 : Int64)))])) _
    refine XS.lstore X0.here hx rfl (hb hby at_23) rfl (l' := #[.val (.long ut), .second, .val (.long us), .second, .val (.long ug), .second, .val (.long ua), .second, .val (.long (g_size us)), .second, .val (.long (ug &&& (9223372036854775807 : Int64))), .second, .unset, .unset, .unset, .unset, .unset, .unset, .unset]) rfl ?_
    show Steps p.tables e below (s₁.setTop (mkF m 25 #[.val (.long ut), .second, .val (.long us), .second, .val (.long ug), .second, .val (.long ua), .second, .val (.long (g_size us)), .second, .val (.long (ug &&& (9223372036854775807 : Int64))), .second, .unset, .unset, .unset, .unset, .unset, .unset, .unset] [])) _
    refine XS.lconst X0.here hx rfl (hb hby at_25) ?_
    show Steps p.tables e below (s₁.setTop (mkF m 26 #[.val (.long ut), .second, .val (.long us), .second, .val (.long ug), .second, .val (.long ua), .second, .val (.long (g_size us)), .second, .val (.long (ug &&& (9223372036854775807 : Int64))), .second, .unset, .unset, .unset, .unset, .unset, .unset, .unset] [(.long (1 : Int64))])) _
    refine XS.lload X0.here hx rfl (hb hby at_26) rfl ?_
    show Steps p.tables e below (s₁.setTop (mkF m 28 #[.val (.long ut), .second, .val (.long us), .second, .val (.long ug), .second, .val (.long ua), .second, .val (.long (g_size us)), .second, .val (.long (ug &&& (9223372036854775807 : Int64))), .second, .unset, .unset, .unset, .unset, .unset, .unset, .unset] [(.long ua), (.long (1 : Int64))])) _
    refine X0.ldc2Long hx hown (mvT hZ (hw _ (List.mem_of_getElem? (i := 0) rfl))) (g := (mkF m 28 #[.val (.long ut), .second, .val (.long us), .second, .val (.long ug), .second, .val (.long ua), .second, .val (.long (g_size us)), .second, .val (.long (ug &&& (9223372036854775807 : Int64))), .second, .unset, .unset, .unset, .unset, .unset, .unset, .unset] [(.long ua), (.long (1 : Int64))])) rfl (hb hby at_28) _ ?_
    show Steps p.tables e below (s₁.setTop (mkF m 31 #[.val (.long ut), .second, .val (.long us), .second, .val (.long ug), .second, .val (.long ua), .second, .val (.long (g_size us)), .second, .val (.long (ug &&& (9223372036854775807 : Int64))), .second, .unset, .unset, .unset, .unset, .unset, .unset, .unset] [(.long (9223372036854775807 : Int64)), (.long ua), (.long (1 : Int64))])) _
    refine XS.land X0.here hx rfl (hb hby at_31) rfl ?_
    show Steps p.tables e below (s₁.setTop (mkF m 32 #[.val (.long ut), .second, .val (.long us), .second, .val (.long ug), .second, .val (.long ua), .second, .val (.long (g_size us)), .second, .val (.long (ug &&& (9223372036854775807 : Int64))), .second, .unset, .unset, .unset, .unset, .unset, .unset, .unset] [(.long (ua &&& (9223372036854775807 : Int64))), (.long (1 : Int64))])) _
    refine XS.lload X0.here hx rfl (hb hby at_32) rfl ?_
    show Steps p.tables e below (s₁.setTop (mkF m 34 #[.val (.long ut), .second, .val (.long us), .second, .val (.long ug), .second, .val (.long ua), .second, .val (.long (g_size us)), .second, .val (.long (ug &&& (9223372036854775807 : Int64))), .second, .unset, .unset, .unset, .unset, .unset, .unset, .unset] [(.long (g_size us)), (.long (ua &&& (9223372036854775807 : Int64))), (.long (1 : Int64))])) _
    refine XS.lrem X0.here hx rfl (hb hby at_34) rfl (own_nz us) ?_
    show Steps p.tables e below (s₁.setTop (mkF m 35 #[.val (.long ut), .second, .val (.long us), .second, .val (.long ug), .second, .val (.long ua), .second, .val (.long (g_size us)), .second, .val (.long (ug &&& (9223372036854775807 : Int64))), .second, .unset, .unset, .unset, .unset, .unset, .unset, .unset] [(.long ((ua &&& (9223372036854775807 : Int64)) - ((ua &&& (9223372036854775807 : Int64)) / (g_size us)) * (g_size us))), (.long (1 : Int64))])) _
    refine XS.ladd X0.here hx rfl (hb hby at_35) rfl ?_
    show Steps p.tables e below (s₁.setTop (mkF m 36 #[.val (.long ut), .second, .val (.long us), .second, .val (.long ug), .second, .val (.long ua), .second, .val (.long (g_size us)), .second, .val (.long (ug &&& (9223372036854775807 : Int64))), .second, .unset, .unset, .unset, .unset, .unset, .unset, .unset] [(.long ((1 : Int64) + ((ua &&& (9223372036854775807 : Int64)) - ((ua &&& (9223372036854775807 : Int64)) / (g_size us)) * (g_size us))))])) _
    refine XS.lstore X0.here hx rfl (hb hby at_36) rfl (l' := #[.val (.long ut), .second, .val (.long us), .second, .val (.long ug), .second, .val (.long ua), .second, .val (.long (g_size us)), .second, .val (.long (ug &&& (9223372036854775807 : Int64))), .second, .val (.long ((1 : Int64) + ((ua &&& (9223372036854775807 : Int64)) - ((ua &&& (9223372036854775807 : Int64)) / (g_size us)) * (g_size us)))), .second, .unset, .unset, .unset, .unset, .unset]) rfl ?_
    show Steps p.tables e below (s₁.setTop (mkF m 38 #[.val (.long ut), .second, .val (.long us), .second, .val (.long ug), .second, .val (.long ua), .second, .val (.long (g_size us)), .second, .val (.long (ug &&& (9223372036854775807 : Int64))), .second, .val (.long ((1 : Int64) + ((ua &&& (9223372036854775807 : Int64)) - ((ua &&& (9223372036854775807 : Int64)) / (g_size us)) * (g_size us)))), .second, .unset, .unset, .unset, .unset, .unset] [])) _
    refine st1 _ ?_
    show Steps p.tables e below (T1.setTop (mkF m 41 #[.val (.long ut), .second, .val (.long us), .second, .val (.long ug), .second, .val (.long ua), .second, .val (.long (g_size us)), .second, .val (.long (ug &&& (9223372036854775807 : Int64))), .second, .val (.long ((1 : Int64) + ((ua &&& (9223372036854775807 : Int64)) - ((ua &&& (9223372036854775807 : Int64)) / (g_size us)) * (g_size us)))), .second, .unset, .unset, .unset, .unset, .unset] [(.ref ob)])) _
    refine XS.dup X1.here hx rfl (hb hby at_41) rfl rfl ?_
    show Steps p.tables e below (T1.setTop (mkF m 42 #[.val (.long ut), .second, .val (.long us), .second, .val (.long ug), .second, .val (.long ua), .second, .val (.long (g_size us)), .second, .val (.long (ug &&& (9223372036854775807 : Int64))), .second, .val (.long ((1 : Int64) + ((ua &&& (9223372036854775807 : Int64)) - ((ua &&& (9223372036854775807 : Int64)) / (g_size us)) * (g_size us)))), .second, .unset, .unset, .unset, .unset, .unset] [(.ref ob), (.ref ob)])) _
    refine XS.lload X1.here hx rfl (hb hby at_42) rfl ?_
    show Steps p.tables e below (T1.setTop (mkF m 44 #[.val (.long ut), .second, .val (.long us), .second, .val (.long ug), .second, .val (.long ua), .second, .val (.long (g_size us)), .second, .val (.long (ug &&& (9223372036854775807 : Int64))), .second, .val (.long ((1 : Int64) + ((ua &&& (9223372036854775807 : Int64)) - ((ua &&& (9223372036854775807 : Int64)) / (g_size us)) * (g_size us)))), .second, .unset, .unset, .unset, .unset, .unset] [(.long (g_size us)), (.ref ob), (.ref ob)])) _
    refine XS.lload X1.here hx rfl (hb hby at_44) rfl ?_
    show Steps p.tables e below (T1.setTop (mkF m 46 #[.val (.long ut), .second, .val (.long us), .second, .val (.long ug), .second, .val (.long ua), .second, .val (.long (g_size us)), .second, .val (.long (ug &&& (9223372036854775807 : Int64))), .second, .val (.long ((1 : Int64) + ((ua &&& (9223372036854775807 : Int64)) - ((ua &&& (9223372036854775807 : Int64)) / (g_size us)) * (g_size us)))), .second, .unset, .unset, .unset, .unset, .unset] [(.long ((1 : Int64) + ((ua &&& (9223372036854775807 : Int64)) - ((ua &&& (9223372036854775807 : Int64)) / (g_size us)) * (g_size us)))), (.long (g_size us)), (.ref ob), (.ref ob)])) _
    refine XS.lload X1.here hx rfl (hb hby at_46) rfl ?_
    show Steps p.tables e below (T1.setTop (mkF m 48 #[.val (.long ut), .second, .val (.long us), .second, .val (.long ug), .second, .val (.long ua), .second, .val (.long (g_size us)), .second, .val (.long (ug &&& (9223372036854775807 : Int64))), .second, .val (.long ((1 : Int64) + ((ua &&& (9223372036854775807 : Int64)) - ((ua &&& (9223372036854775807 : Int64)) / (g_size us)) * (g_size us)))), .second, .unset, .unset, .unset, .unset, .unset] [(.long (ug &&& (9223372036854775807 : Int64))), (.long ((1 : Int64) + ((ua &&& (9223372036854775807 : Int64)) - ((ua &&& (9223372036854775807 : Int64)) / (g_size us)) * (g_size us)))), (.long (g_size us)), (.ref ob), (.ref ob)])) _
    refine st3.trans ?_
    show Steps p.tables e below (T3.setTop (mkF m 51 #[.val (.long ut), .second, .val (.long us), .second, .val (.long ug), .second, .val (.long ua), .second, .val (.long (g_size us)), .second, .val (.long (ug &&& (9223372036854775807 : Int64))), .second, .val (.long ((1 : Int64) + ((ua &&& (9223372036854775807 : Int64)) - ((ua &&& (9223372036854775807 : Int64)) / (g_size us)) * (g_size us)))), .second, .unset, .unset, .unset, .unset, .unset] [(.ref ob)])) _
    refine XS.astore X3.here hx rfl (hb hby at_51) rfl rfl (l' := #[.val (.long ut), .second, .val (.long us), .second, .val (.long ug), .second, .val (.long ua), .second, .val (.long (g_size us)), .second, .val (.long (ug &&& (9223372036854775807 : Int64))), .second, .val (.long ((1 : Int64) + ((ua &&& (9223372036854775807 : Int64)) - ((ua &&& (9223372036854775807 : Int64)) / (g_size us)) * (g_size us)))), .second, .val (.ref ob), .unset, .unset, .unset, .unset]) rfl ?_
    show Steps p.tables e below (T3.setTop (mkF m 53 #[.val (.long ut), .second, .val (.long us), .second, .val (.long ug), .second, .val (.long ua), .second, .val (.long (g_size us)), .second, .val (.long (ug &&& (9223372036854775807 : Int64))), .second, .val (.long ((1 : Int64) + ((ua &&& (9223372036854775807 : Int64)) - ((ua &&& (9223372036854775807 : Int64)) / (g_size us)) * (g_size us)))), .second, .val (.ref ob), .unset, .unset, .unset, .unset] [])) _
    refine XS.aload X3.here hx rfl (hb hby at_53) rfl rfl ?_
    show Steps p.tables e below (T3.setTop (mkF m 55 #[.val (.long ut), .second, .val (.long us), .second, .val (.long ug), .second, .val (.long ua), .second, .val (.long (g_size us)), .second, .val (.long (ug &&& (9223372036854775807 : Int64))), .second, .val (.long ((1 : Int64) + ((ua &&& (9223372036854775807 : Int64)) - ((ua &&& (9223372036854775807 : Int64)) / (g_size us)) * (g_size us)))), .second, .val (.ref ob), .unset, .unset, .unset, .unset] [(.ref ob)])) _
    refine XS.lloadN X3.here hx rfl (hb hby at_55) rfl ?_
    show Steps p.tables e below (T3.setTop (mkF m 56 #[.val (.long ut), .second, .val (.long us), .second, .val (.long ug), .second, .val (.long ua), .second, .val (.long (g_size us)), .second, .val (.long (ug &&& (9223372036854775807 : Int64))), .second, .val (.long ((1 : Int64) + ((ua &&& (9223372036854775807 : Int64)) - ((ua &&& (9223372036854775807 : Int64)) / (g_size us)) * (g_size us)))), .second, .val (.ref ob), .unset, .unset, .unset, .unset] [(.long ut), (.ref ob)])) _
    refine st4.trans ?_
    show Steps p.tables e below (T4.setTop (mkF m 59 #[.val (.long ut), .second, .val (.long us), .second, .val (.long ug), .second, .val (.long ua), .second, .val (.long (g_size us)), .second, .val (.long (ug &&& (9223372036854775807 : Int64))), .second, .val (.long ((1 : Int64) + ((ua &&& (9223372036854775807 : Int64)) - ((ua &&& (9223372036854775807 : Int64)) / (g_size us)) * (g_size us)))), .second, .val (.ref ob), .unset, .unset, .unset, .unset] [(.long (f3_5 (f3_5 ut (g_size us)) (ug &&& (9223372036854775807 : Int64))))])) _
    refine XS.lstore X4.here hx rfl (hb hby at_59) rfl (l' := #[.val (.long ut), .second, .val (.long us), .second, .val (.long ug), .second, .val (.long ua), .second, .val (.long (g_size us)), .second, .val (.long (ug &&& (9223372036854775807 : Int64))), .second, .val (.long ((1 : Int64) + ((ua &&& (9223372036854775807 : Int64)) - ((ua &&& (9223372036854775807 : Int64)) / (g_size us)) * (g_size us)))), .second, .val (.ref ob), .val (.long (f3_5 (f3_5 ut (g_size us)) (ug &&& (9223372036854775807 : Int64)))), .second, .unset, .unset]) rfl ?_
    show Steps p.tables e below (T4.setTop (mkF m 61 #[.val (.long ut), .second, .val (.long us), .second, .val (.long ug), .second, .val (.long ua), .second, .val (.long (g_size us)), .second, .val (.long (ug &&& (9223372036854775807 : Int64))), .second, .val (.long ((1 : Int64) + ((ua &&& (9223372036854775807 : Int64)) - ((ua &&& (9223372036854775807 : Int64)) / (g_size us)) * (g_size us)))), .second, .val (.ref ob), .val (.long (f3_5 (f3_5 ut (g_size us)) (ug &&& (9223372036854775807 : Int64)))), .second, .unset, .unset] [])) _
    refine XS.lloadN X4.here hx rfl (hb hby at_61) rfl ?_
    show Steps p.tables e below (T4.setTop (mkF m 62 #[.val (.long ut), .second, .val (.long us), .second, .val (.long ug), .second, .val (.long ua), .second, .val (.long (g_size us)), .second, .val (.long (ug &&& (9223372036854775807 : Int64))), .second, .val (.long ((1 : Int64) + ((ua &&& (9223372036854775807 : Int64)) - ((ua &&& (9223372036854775807 : Int64)) / (g_size us)) * (g_size us)))), .second, .val (.ref ob), .val (.long (f3_5 (f3_5 ut (g_size us)) (ug &&& (9223372036854775807 : Int64)))), .second, .unset, .unset] [(.long ut)])) _
    refine XS.lload X4.here hx rfl (hb hby at_62) rfl ?_
    show Steps p.tables e below (T4.setTop (mkF m 64 #[.val (.long ut), .second, .val (.long us), .second, .val (.long ug), .second, .val (.long ua), .second, .val (.long (g_size us)), .second, .val (.long (ug &&& (9223372036854775807 : Int64))), .second, .val (.long ((1 : Int64) + ((ua &&& (9223372036854775807 : Int64)) - ((ua &&& (9223372036854775807 : Int64)) / (g_size us)) * (g_size us)))), .second, .val (.ref ob), .val (.long (f3_5 (f3_5 ut (g_size us)) (ug &&& (9223372036854775807 : Int64)))), .second, .unset, .unset] [(.long (g_size us)), (.long ut)])) _
    refine st5 _ ?_
    show Steps p.tables e below (T5.setTop (mkF m 67 #[.val (.long ut), .second, .val (.long us), .second, .val (.long ug), .second, .val (.long ua), .second, .val (.long (g_size us)), .second, .val (.long (ug &&& (9223372036854775807 : Int64))), .second, .val (.long ((1 : Int64) + ((ua &&& (9223372036854775807 : Int64)) - ((ua &&& (9223372036854775807 : Int64)) / (g_size us)) * (g_size us)))), .second, .val (.ref ob), .val (.long (f3_5 (f3_5 ut (g_size us)) (ug &&& (9223372036854775807 : Int64)))), .second, .unset, .unset] [(.long (f6_0 ut (g_size us)))])) _
    refine XS.lload X5.here hx rfl (hb hby at_67) rfl ?_
    show Steps p.tables e below (T5.setTop (mkF m 69 #[.val (.long ut), .second, .val (.long us), .second, .val (.long ug), .second, .val (.long ua), .second, .val (.long (g_size us)), .second, .val (.long (ug &&& (9223372036854775807 : Int64))), .second, .val (.long ((1 : Int64) + ((ua &&& (9223372036854775807 : Int64)) - ((ua &&& (9223372036854775807 : Int64)) / (g_size us)) * (g_size us)))), .second, .val (.ref ob), .val (.long (f3_5 (f3_5 ut (g_size us)) (ug &&& (9223372036854775807 : Int64)))), .second, .unset, .unset] [(.long (ug &&& (9223372036854775807 : Int64))), (.long (f6_0 ut (g_size us)))])) _
    refine st6 _ ?_
    show Steps p.tables e below (T6.setTop (mkF m 72 #[.val (.long ut), .second, .val (.long us), .second, .val (.long ug), .second, .val (.long ua), .second, .val (.long (g_size us)), .second, .val (.long (ug &&& (9223372036854775807 : Int64))), .second, .val (.long ((1 : Int64) + ((ua &&& (9223372036854775807 : Int64)) - ((ua &&& (9223372036854775807 : Int64)) / (g_size us)) * (g_size us)))), .second, .val (.ref ob), .val (.long (f3_5 (f3_5 ut (g_size us)) (ug &&& (9223372036854775807 : Int64)))), .second, .unset, .unset] [(.long (f6_0 (f6_0 ut (g_size us)) (ug &&& (9223372036854775807 : Int64))))])) _
    refine XS.lstore X6.here hx rfl (hb hby at_72) rfl (l' := #[.val (.long ut), .second, .val (.long us), .second, .val (.long ug), .second, .val (.long ua), .second, .val (.long (g_size us)), .second, .val (.long (ug &&& (9223372036854775807 : Int64))), .second, .val (.long ((1 : Int64) + ((ua &&& (9223372036854775807 : Int64)) - ((ua &&& (9223372036854775807 : Int64)) / (g_size us)) * (g_size us)))), .second, .val (.ref ob), .val (.long (f3_5 (f3_5 ut (g_size us)) (ug &&& (9223372036854775807 : Int64)))), .second, .val (.long (f6_0 (f6_0 ut (g_size us)) (ug &&& (9223372036854775807 : Int64)))), .second]) rfl ?_
    show Steps p.tables e below (T6.setTop (mkF m 74 #[.val (.long ut), .second, .val (.long us), .second, .val (.long ug), .second, .val (.long ua), .second, .val (.long (g_size us)), .second, .val (.long (ug &&& (9223372036854775807 : Int64))), .second, .val (.long ((1 : Int64) + ((ua &&& (9223372036854775807 : Int64)) - ((ua &&& (9223372036854775807 : Int64)) / (g_size us)) * (g_size us)))), .second, .val (.ref ob), .val (.long (f3_5 (f3_5 ut (g_size us)) (ug &&& (9223372036854775807 : Int64)))), .second, .val (.long (f6_0 (f6_0 ut (g_size us)) (ug &&& (9223372036854775807 : Int64)))), .second] [])) _
    refine XS.lload X6.here hx rfl (hb hby at_74) rfl ?_
    show Steps p.tables e below (T6.setTop (mkF m 76 #[.val (.long ut), .second, .val (.long us), .second, .val (.long ug), .second, .val (.long ua), .second, .val (.long (g_size us)), .second, .val (.long (ug &&& (9223372036854775807 : Int64))), .second, .val (.long ((1 : Int64) + ((ua &&& (9223372036854775807 : Int64)) - ((ua &&& (9223372036854775807 : Int64)) / (g_size us)) * (g_size us)))), .second, .val (.ref ob), .val (.long (f3_5 (f3_5 ut (g_size us)) (ug &&& (9223372036854775807 : Int64)))), .second, .val (.long (f6_0 (f6_0 ut (g_size us)) (ug &&& (9223372036854775807 : Int64)))), .second] [(.long (f3_5 (f3_5 ut (g_size us)) (ug &&& (9223372036854775807 : Int64))))])) _
    refine XS.lload X6.here hx rfl (hb hby at_76) rfl ?_
    show Steps p.tables e below (T6.setTop (mkF m 78 #[.val (.long ut), .second, .val (.long us), .second, .val (.long ug), .second, .val (.long ua), .second, .val (.long (g_size us)), .second, .val (.long (ug &&& (9223372036854775807 : Int64))), .second, .val (.long ((1 : Int64) + ((ua &&& (9223372036854775807 : Int64)) - ((ua &&& (9223372036854775807 : Int64)) / (g_size us)) * (g_size us)))), .second, .val (.ref ob), .val (.long (f3_5 (f3_5 ut (g_size us)) (ug &&& (9223372036854775807 : Int64)))), .second, .val (.long (f6_0 (f6_0 ut (g_size us)) (ug &&& (9223372036854775807 : Int64)))), .second] [(.long (f6_0 (f6_0 ut (g_size us)) (ug &&& (9223372036854775807 : Int64)))), (.long (f3_5 (f3_5 ut (g_size us)) (ug &&& (9223372036854775807 : Int64))))])) _
    refine XS.lcmp X6.here hx rfl (hb hby at_78) rfl ?_
    show Steps p.tables e below (T6.setTop (mkF m 79 #[.val (.long ut), .second, .val (.long us), .second, .val (.long ug), .second, .val (.long ua), .second, .val (.long (g_size us)), .second, .val (.long (ug &&& (9223372036854775807 : Int64))), .second, .val (.long ((1 : Int64) + ((ua &&& (9223372036854775807 : Int64)) - ((ua &&& (9223372036854775807 : Int64)) / (g_size us)) * (g_size us)))), .second, .val (.ref ob), .val (.long (f3_5 (f3_5 ut (g_size us)) (ug &&& (9223372036854775807 : Int64)))), .second, .val (.long (f6_0 (f6_0 ut (g_size us)) (ug &&& (9223372036854775807 : Int64)))), .second] [(.int (lcmpW (f3_5 (f3_5 ut (g_size us)) (ug &&& (9223372036854775807 : Int64))) (f6_0 (f6_0 ut (g_size us)) (ug &&& (9223372036854775807 : Int64)))))])) _
    refine XS.ifNo X6.here hx rfl (hb hby at_79) rfl ((if0 _ _).trans (teq ((lw_eq (f3_5 (f3_5 ut (g_size us)) (ug &&& (9223372036854775807 : Int64))) (f6_0 (f6_0 ut (g_size us)) (ug &&& (9223372036854775807 : Int64)))).mpr (own_eq ut us ug))).2) ?_
    show Steps p.tables e below (T6.setTop (mkF m 82 #[.val (.long ut), .second, .val (.long us), .second, .val (.long ug), .second, .val (.long ua), .second, .val (.long (g_size us)), .second, .val (.long (ug &&& (9223372036854775807 : Int64))), .second, .val (.long ((1 : Int64) + ((ua &&& (9223372036854775807 : Int64)) - ((ua &&& (9223372036854775807 : Int64)) / (g_size us)) * (g_size us)))), .second, .val (.ref ob), .val (.long (f3_5 (f3_5 ut (g_size us)) (ug &&& (9223372036854775807 : Int64)))), .second, .val (.long (f6_0 (f6_0 ut (g_size us)) (ug &&& (9223372036854775807 : Int64)))), .second] [])) _
    refine XS.iconst X6.here hx rfl (hb hby at_82) ?_
    show Steps p.tables e below (T6.setTop (mkF m 83 #[.val (.long ut), .second, .val (.long us), .second, .val (.long ug), .second, .val (.long ua), .second, .val (.long (g_size us)), .second, .val (.long (ug &&& (9223372036854775807 : Int64))), .second, .val (.long ((1 : Int64) + ((ua &&& (9223372036854775807 : Int64)) - ((ua &&& (9223372036854775807 : Int64)) / (g_size us)) * (g_size us)))), .second, .val (.ref ob), .val (.long (f3_5 (f3_5 ut (g_size us)) (ug &&& (9223372036854775807 : Int64)))), .second, .val (.long (f6_0 (f6_0 ut (g_size us)) (ug &&& (9223372036854775807 : Int64)))), .second] [(.int (1 : Int32))])) _
    refine XS.goto X6.here hx rfl (pc0 := 83) (pc' := 87) rfl (hb hby at_83) (by decide) (by decide) ?_
    show Steps p.tables e below (T6.setTop (mkF m 87 #[.val (.long ut), .second, .val (.long us), .second, .val (.long ug), .second, .val (.long ua), .second, .val (.long (g_size us)), .second, .val (.long (ug &&& (9223372036854775807 : Int64))), .second, .val (.long ((1 : Int64) + ((ua &&& (9223372036854775807 : Int64)) - ((ua &&& (9223372036854775807 : Int64)) / (g_size us)) * (g_size us)))), .second, .val (.ref ob), .val (.long (f3_5 (f3_5 ut (g_size us)) (ug &&& (9223372036854775807 : Int64)))), .second, .val (.long (f6_0 (f6_0 ut (g_size us)) (ug &&& (9223372036854775807 : Int64)))), .second] [(.int (1 : Int32))])) _
    exact retN X6 hx (t := .boolean) Bd.returns (by simp) (hb hby at_87) hr
  · show Q0 Z ut us ug ua h0 n0 _ T6.heap _
    rw [e6q]
    exact ⟨rfl, N6⟩
set_option maxRecDepth 65536 in
set_option maxHeartbeats 40000000 in
theorem comes_1 {Post : Tables → Env → Array Value → State → Outcome → State → Prop} (hpost : ∀ tb e args s v u, (limb_1_1.after args s (.returned v) u = true ∧ limb_1_2.after args s (.returned v) u = true ∧ True) → FrameEnd s (.returned v) u (Jvm.fieldLocs frame_1_writes args s ++ Jvm.arrayLocs frame_1_arrays args s ++ Jvm.staticLocs frame_1_statics s) 16 128 → Post tb e args s (.returned v) u) :
    ArmFor flags0 classFile x code maxLocals ret World_1 tables_1 room_1 Calls_1 rest_1 Pre_1 Post := by
  intro l hfl _ _ p e ha hc hk s m args below hf hA hF happ hP
  obtain ⟨hcalls, hrest, hpre⟩ := hP
  obtain ⟨-, -, -, hnamed, -, -, -, hat⟩ := (Spec.applies_iff hf).mp happ
  obtain ⟨hg, hn⟩ := and_e (Cond.before_iff.mp (show (Jvm.Cond.and given_1 narrow_1).before args s = true from hpre))
  obtain ⟨h1, r0⟩ := and_e hg
  obtain ⟨g0, r1⟩ := and_e r0
  obtain ⟨g1, r2⟩ := and_e r1
  obtain ⟨g2, r3⟩ := and_e r2
  obtain ⟨w0, w1, w2, w3, rfl⟩ : ∃ w0 w1 w2 w3 : Value, args = #[w0, w1, w2, w3] := by
    have hs : args.size = 4 := by simpa [Cond.value, given_1] using h1
    obtain ⟨L⟩ := args
    match L, hs with
    | [w0, w1, w2, w3], _ => exact ⟨w0, w1, w2, w3, rfl⟩
  have hw := fun d (hd : d ∈ tables_1) => atoms_spec (ws := Jvm.Cond.code x code maxLocals ret :: tables_1) hat d (List.mem_cons_of_mem _ hd)
  obtain ⟨i0, ei0⟩ := isL_v g0
  obtain rfl : w0 = (.long i0) := Option.some.inj ei0
  obtain ⟨i1, ei1⟩ := isL_v g1
  obtain rfl : w1 = (.long i1) := Option.some.inj ei1
  obtain ⟨i2, ei2⟩ := isL_v g2
  obtain rfl : w2 = (.long i2) := Option.some.inj ei2
  obtain ⟨i3, ei3⟩ := isL_v r3
  obtain rfl : w3 = (.long i3) := Option.some.inj ei3
  obtain ⟨n, o, h1, h2, h3, _, L, rfl, ⟨rfl, N⟩, hq⟩ := rm0 l s _ hw tables_1 i0 i1 i2 i3 s.heap s.heap.size (Nat.le_refl _) p e ha hc hk s m _ below hf ((Spec.applies_iff_loose hf).mp happ).1 ⟨rfl, State.Warmed39.refl s, rfl⟩ trivial
  refine ⟨n, _, h1, h2, h3, hpost _ _ _ _ _ _ ⟨Cond.after_iff.mpr rfl, Cond.after_iff.mpr (eq_i res_at (Term.int_eval (1)) rfl), trivial⟩ ⟨hq.1, hq.2.1, (hq.2.2.sift fun y hy => Or.inr (N y hy)).mono (by decide) (by decide)⟩⟩
theorem main_1_1 : Claimed_1_1 := comes_1 fun _ _ _ _ _ _ h hF => ⟨h.1, hF⟩
theorem main_1_2 : Claimed_1_2 := comes_1 fun _ _ _ _ _ _ h hF => ⟨h.2.1, hF⟩
end Jvm.Pilot.@@N@@
namespace Jvm.Pilot.@@N@@
open Jvm Jvm.ClassFile Sem Op Lib Jvm.Free Jvm.Stand Jvm.Pilot.@@N@@.Jvm.D
/-! MADE BY PROGRAM (witnessworld.py) out of the Statement's table words and the real class files: 10 classes; the members and pool entries that the words name. The judged class is class 1, her method 2. -/
namespace start1
open Jvm.ClassFile
def u (s : String) : CpInfo := .utf8 (stringToUtf16 s)
/-- a pool by its gaps: so many unusable entries, then the entry; so many at the end -/
def gap : Nat → List CpInfo → List CpInfo
  | 0, r => r
  | n + 1, r => .unusable :: gap n r
def poolList (es : List (Nat × CpInfo)) (last : Nat) : List CpInfo := es.foldr (fun e r => gap e.1 (e.2 :: r)) (gap last [])
def pool (es : List (Nat × CpInfo)) (last : Nat) : Array CpInfo := ⟨poolList es last⟩
def fileOf (pool : Array CpInfo) (this : Nat) (attrs : Array Attribute := #[]) (ms : Array MethodInfo := #[]) (fl : Nat := 33) (sup : Nat := 0) (ifs : Array Nat := #[]) (fds : Array FieldInfo := #[]) : ClassFile where
  minorVersion := 0
  majorVersion := 65
  constantPool := pool
  accessFlags := fl
  thisClass := this
  superClass := sup
  interfaces := ifs
  fields := fds
  methods := ms
  attributes := attrs
def plain (name : String) (sup : Option ClassId) : Class where
  name := name
  kind := .ordinary
  loader := none
  accessFlags := 33
  super := sup
  interfaces := #[]
  cf := none
  fields := #[]
  methods := #[]
  instanceTypes := #[]
  staticTypes := #[]
  resolved := #[]
  callSites := []
  init := .initialized
  statics := none
  mirror := none

def pool0 : Array CpInfo := pool [(5, u "<init>"), (0, u "()V"), (1, .class_ 10), (1, u "java/lang/Object")] 113

def k0c0 : Code := { maxStack := 0, maxLocals := 1, code := object_method_1_code, exceptionTable := #[], attributes := #[] }
def k0m0 : Method := { name := "<init>", desc := "()V", sig := { parameters := [], returnType := none }, accessFlags := 1, code := some k0c0 }
/-- java/lang/Object -/
def k0 : Class := { plain "java/lang/Object" none with
  accessFlags := 33
  interfaces := #[]
  cf := some (fileOf pool0 8 #[] #[{ accessFlags := 1, nameIndex := 5, descriptorIndex := 6, attributes := #[] }] 33 0 #[] #[])
  fields := #[]
  methods := #[k0m0]
  instanceTypes := #[]
  staticTypes := #[]
  resolved := Array.replicate 124 none
  statics := none }

def pool1 : Array CpInfo := pool [(2, .class_ 4), (1, u "java/lang/Object"), (0, u "<init>"), (0, u "()V"), (2, .long 9223372036854775807), (1, .class_ 12), (0, u "com/example/riverlock/riverlock/Windows"), (0, .methodref 11 14), (0, .nameAndType 5 15), (0, u "(JJJ)V"), (0, .methodref 11 17), (0, .nameAndType 18 19), (0, u "closes"), (0, u "(J)J"), (0, .methodref 21 22), (0, .class_ 23), (0, .nameAndType 24 25), (0, u "com/example/riverlock/riverlock/WindowsClosesPinLaw"), (0, u "satAdd"), (0, u "(JJ)J"), (3, u "law"), (0, u "(JJJJ)Z")] 2

def k1m0 : Method := { name := "<init>", desc := "()V", sig := { parameters := [], returnType := none }, accessFlags := 2, code := none }
def k1c1 : Code := { maxStack := 6, maxLocals := 4, code := method_2_code, exceptionTable := #[], attributes := #[] }
def k1m1 : Method := { name := "satAdd", desc := "(JJ)J", sig := { parameters := [.long, .long], returnType := some .long }, accessFlags := 10, code := some k1c1 }
def k1c2 : Code := { maxStack := 8, maxLocals := 19, code := code, exceptionTable := #[], attributes := #[] }
def k1m2 : Method := { name := "law", desc := "(JJJJ)Z", sig := { parameters := [.long, .long, .long, .long], returnType := some .boolean }, accessFlags := 9, code := some k1c2 }
/-- com/example/riverlock/riverlock/WindowsClosesPinLaw -/
def k1 : Class := { plain "com/example/riverlock/riverlock/WindowsClosesPinLaw" (some 0) with
  accessFlags := 49
  interfaces := #[]
  cf := some (fileOf pool1 21 #[] #[{ accessFlags := 2, nameIndex := 5, descriptorIndex := 6, attributes := #[] }, { accessFlags := 10, nameIndex := 24, descriptorIndex := 25, attributes := #[] }, { accessFlags := 9, nameIndex := 29, descriptorIndex := 30, attributes := #[] }] 49 2 #[] #[])
  fields := #[]
  methods := #[k1m0, k1m1, k1m2]
  instanceTypes := #[]
  staticTypes := #[]
  resolved := Array.replicate 33 none
  statics := none }

def pool2 : Array CpInfo := pool [(1, .methodref 2 3), (0, .class_ 4), (0, .nameAndType 5 6), (0, u "java/lang/Object"), (0, u "<init>"), (0, u "()V"), (0, .class_ 8), (0, u "java/lang/Record")] 13

def k2c0 : Code := { maxStack := 1, maxLocals := 1, code := jdk_30_method_1_code, exceptionTable := #[], attributes := #[] }
def k2m0 : Method := { name := "<init>", desc := "()V", sig := { parameters := [], returnType := none }, accessFlags := 4, code := some k2c0 }
/-- java/lang/Record -/
def k2 : Class := { plain "java/lang/Record" (some 0) with
  accessFlags := 1057
  interfaces := #[]
  cf := some (fileOf pool2 7 #[] #[{ accessFlags := 4, nameIndex := 5, descriptorIndex := 6, attributes := #[] }] 1057 2 #[] #[])
  fields := #[]
  methods := #[k2m0]
  instanceTypes := #[]
  staticTypes := #[]
  resolved := Array.replicate 22 none
  statics := none }

def pool3 : Array CpInfo := pool [(1, .methodref 2 3), (0, .class_ 4), (0, .nameAndType 5 6), (0, u "java/lang/Record"), (0, u "<init>"), (0, u "()V"), (0, .fieldref 8 9), (0, .class_ 10), (0, .nameAndType 11 12), (0, u "com/example/riverlock/riverlock/Windows"), (0, u "size"), (0, u "J"), (0, .fieldref 8 14), (0, .nameAndType 15 12), (0, u "advance"), (0, .fieldref 8 17), (0, .nameAndType 18 12), (0, u "grace"), (3, u "(JJ)J"), (16, .methodref 8 40), (0, .nameAndType 41 22), (0, u "plus"), (0, .methodref 8 43), (0, .nameAndType 44 45), (0, u "end"), (0, u "(J)J"), (2, .long 9223372036854775807), (15, u "(JJJ)V"), (8, u "closes")] 26

def k3c0 : Code := { maxStack := 3, maxLocals := 7, code := prog_33_method_1_code, exceptionTable := #[], attributes := #[] }
def k3m0 : Method := { name := "<init>", desc := "(JJJ)V", sig := { parameters := [.long, .long, .long], returnType := none }, accessFlags := 0, code := some k3c0 }
def k3c1 : Code := { maxStack := 4, maxLocals := 3, code := prog_33_method_3_code, exceptionTable := #[], attributes := #[] }
def k3m1 : Method := { name := "end", desc := "(J)J", sig := { parameters := [.long], returnType := some .long }, accessFlags := 0, code := some k3c1 }
def k3c2 : Code := { maxStack := 4, maxLocals := 3, code := prog_33_method_4_code, exceptionTable := #[], attributes := #[] }
def k3m2 : Method := { name := "closes", desc := "(J)J", sig := { parameters := [.long], returnType := some .long }, accessFlags := 0, code := some k3c2 }
def k3c3 : Code := { maxStack := 4, maxLocals := 6, code := prog_33_method_5_code, exceptionTable := #[], attributes := #[] }
def k3m3 : Method := { name := "plus", desc := "(JJ)J", sig := { parameters := [.long, .long], returnType := some .long }, accessFlags := 10, code := some k3c3 }
/-- com/example/riverlock/riverlock/Windows -/
def k3 : Class := { plain "com/example/riverlock/riverlock/Windows" (some 2) with
  accessFlags := 48
  interfaces := #[]
  cf := some (fileOf pool3 8 #[] #[{ accessFlags := 0, nameIndex := 5, descriptorIndex := 64, attributes := #[] }, { accessFlags := 0, nameIndex := 44, descriptorIndex := 45, attributes := #[] }, { accessFlags := 0, nameIndex := 73, descriptorIndex := 45, attributes := #[] }, { accessFlags := 10, nameIndex := 41, descriptorIndex := 22, attributes := #[] }] 48 2 #[] #[{ accessFlags := 18, nameIndex := 11, descriptorIndex := 12, attributes := #[] }, { accessFlags := 18, nameIndex := 15, descriptorIndex := 12, attributes := #[] }, { accessFlags := 18, nameIndex := 18, descriptorIndex := 12, attributes := #[] }])
  fields := #[{ name := "size", type := .long, accessFlags := 18, slot := 0, constantValue := 0 }, { name := "advance", type := .long, accessFlags := 18, slot := 1, constantValue := 0 }, { name := "grace", type := .long, accessFlags := 18, slot := 2, constantValue := 0 }]
  methods := #[k3m0, k3m1, k3m2, k3m3]
  instanceTypes := #[.long, .long, .long]
  staticTypes := #[]
  resolved := Array.replicate 100 none
  statics := none }

def pool4 : Array CpInfo := pool [(1, u "java/lang/Cloneable"), (0, .class_ 1), (0, u "java/lang/Object"), (0, .class_ 3)] 3

/-- java/lang/Cloneable -/
def k4 : Class := { plain "java/lang/Cloneable" (some 0) with
  accessFlags := 1537
  interfaces := #[]
  cf := some (fileOf pool4 2 #[] #[] 1537 4 #[] #[])
  fields := #[]
  methods := #[]
  instanceTypes := #[]
  staticTypes := #[]
  resolved := Array.replicate 8 none
  statics := none }

def pool5 : Array CpInfo := pool [(1, u "java/io/Serializable"), (0, .class_ 1), (0, u "java/lang/Object"), (0, .class_ 3)] 3

/-- java/io/Serializable -/
def k5 : Class := { plain "java/io/Serializable" (some 0) with
  accessFlags := 1537
  interfaces := #[]
  cf := some (fileOf pool5 2 #[] #[] 1537 4 #[] #[])
  fields := #[]
  methods := #[]
  instanceTypes := #[]
  staticTypes := #[]
  resolved := Array.replicate 8 none
  statics := none }

/-- the primitive byte -/
def k6 : Class := { plain "byte" none with kind := .primitive 'B', accessFlags := 0x411 }
/-- [B -/
def k7 : Class := { plain "[B" (some 0) with kind := .array 6 .byte, interfaces := #[4, 5], accessFlags := 1041 }

/-- the primitive int -/
def k8 : Class := { plain "int" none with kind := .primitive 'I', accessFlags := 0x411 }
/-- [I -/
def k9 : Class := { plain "[I" (some 0) with kind := .array 8 .int, interfaces := #[4, 5], accessFlags := 1041 }

def heap : Heap := #[]
def classes : Array Class := #[k0, k1, k2, k3, k4, k5, k6, k7, k8, k9]
def interned : List (Array UInt16 × Addr) := []
def slotsUsed : Nat := 0
def theMethod : MethodId := ⟨1, 2⟩
def args0 : Array Value := #[.long 5, .long 7, .long 1, .long 2]
def aboutOver (below : List Frame) : State where
  vm := { classes := classes, interned := interned.toArray }
  heap := heap
  slotsUsed := slotsUsed
  threads := #[{ frames := .invoking theMethod args0 :: below }]
def below0 : List Frame := [.native { method := ⟨0, 0⟩, args := #[] }]
def about1 : State := aboutOver below0
def p0 : Program := .bare "" "" ""
def e0 : Env := launch0.env 0 0 0
theorem w_frames : about1.frames = Frame.invoking theMethod args0 :: below0 := rfl
set_option maxRecDepth 65536 in
theorem w_args : argsFit about1.vm theMethod args0 = true := by decide +kernel
set_option maxRecDepth 65536 in
theorem w_heap : heapFits about1 = true := by decide +kernel
set_option maxRecDepth 65536 in
theorem w_runnable : about1.curStatus? = some .runnable := by decide +kernel
set_option maxRecDepth 65536 in
theorem w_alone : about1.alone = true := by decide +kernel
set_option maxRecDepth 65536 in
theorem w_named : about1.methodNamed? x = some theMethod := by decide +kernel
set_option maxRecDepth 65536 in
theorem w_hears : about1.hears theMethod below0 = true := by decide +kernel
set_option maxRecDepth 65536 in
theorem w_ripe : about1.ripe theMethod args0 below0 = true := by decide +kernel
theorem w_running : about1.status = .running := rfl
set_option maxRecDepth 65536 in
theorem w_room : about1.hasRoom e0.platform room_1 = true :=
  launch0.hasRoom_least _ room_1 (by decide +kernel) (by decide +kernel) (by decide +kernel) (by decide +kernel) (by decide +kernel) (by decide +kernel)
theorem allAtoms_all (ts : List Jvm.Cond) (a : Array Jvm.Value) (st : Jvm.State) : (allAtoms ts).before a st = ts.all (fun c => c.before a st) := by
  induction ts with
  | nil => rfl
  | cons c t ih =>
    show (Jvm.Cond.and c (allAtoms t)).before a st = _
    rw [Jvm.Cond.before_and, ih, List.all_cons]
def words1 : List Jvm.Cond := Jvm.Cond.code x code maxLocals ret :: tables_1
/-- a 'code' word, met by the world's own term for the bytes: nothing is compared byte by byte -/
theorem code_word {y : MethodName} {bytes : ByteArray} {mx : Nat} {rt : Option FieldType} {a : Array Value} {s : State} {m : MethodId} {meth : Method} {c : Code} (h1 : s.methodNamed? y = some m) (h2 : s.vm.method? m = some meth) (h3 : meth.code = some c) (h4 : c.code = bytes)
    (h5 : (c.maxLocals == mx && c.exceptionTable.isEmpty && decide (c.maxStack ≤ mostOperands) && decide (meth.sig.returnType = rt) && !meth.locks && decide (parseMethodDescriptor y.desc = some meth.sig)) = true) : (Jvm.Cond.code y bytes mx rt).before a s = true := by
  simp only [Bool.and_eq_true, beq_iff_eq, Bool.not_eq_true', decide_eq_true_eq] at h5
  obtain ⟨⟨⟨⟨⟨g1, g2⟩, g3⟩, g4⟩, g5⟩, g6⟩ := h5
  simp [Cond.before, Cond.holds, Cond.value, h1, h2, h3, h4, g1, g2, g3, g4, g5, g6]
def isCode : Jvm.Cond → Bool
  | .code _ _ _ _ => true
  | _ => false
theorem all_split {L : List Jvm.Cond} {P : Jvm.Cond → Bool} (h1 : L.all (fun c => isCode c || P c) = true) (h2 : ∀ c ∈ L.filter isCode, P c = true) : L.all P = true := by
  refine List.all_eq_true.mpr fun c hc => ?_
  have h := List.all_eq_true.mp h1 c hc
  rcases Bool.eq_false_or_eq_true (isCode c) with hi | hi
  · exact h2 c (List.mem_filter.mpr ⟨hc, hi⟩)
  · simpa [hi] using h
set_option maxRecDepth 65536 in
theorem w_c0 : (Jvm.Cond.code x code maxLocals ret).before args0 about1 = true := code_word (m := ⟨1, 2⟩) (meth := k1m2) (c := k1c2) (by decide +kernel) rfl rfl rfl (by decide +kernel)
set_option maxRecDepth 65536 in
theorem w_c1 : (Jvm.Cond.code ({ cls := "com/example/riverlock/riverlock/Windows", name := "<init>", desc := "(JJJ)V" } : Jvm.MethodName) prog_33_method_1_code (7 : Nat) (Option.none : Option Jvm.ClassFile.FieldType)).before args0 about1 = true := code_word (m := ⟨3, 0⟩) (meth := k3m0) (c := k3c0) (by decide +kernel) rfl rfl rfl (by decide +kernel)
set_option maxRecDepth 65536 in
theorem w_c2 : (Jvm.Cond.code ({ cls := "java/lang/Record", name := "<init>", desc := "()V" } : Jvm.MethodName) jdk_30_method_1_code (1 : Nat) (Option.none : Option Jvm.ClassFile.FieldType)).before args0 about1 = true := code_word (m := ⟨2, 0⟩) (meth := k2m0) (c := k2c0) (by decide +kernel) rfl rfl rfl (by decide +kernel)
set_option maxRecDepth 65536 in
theorem w_c3 : (Jvm.Cond.code ({ cls := "java/lang/Object", name := "<init>", desc := "()V" } : Jvm.MethodName) object_method_1_code (1 : Nat) (Option.none : Option Jvm.ClassFile.FieldType)).before args0 about1 = true := code_word (m := ⟨0, 0⟩) (meth := k0m0) (c := k0c0) (by decide +kernel) rfl rfl rfl (by decide +kernel)
set_option maxRecDepth 65536 in
theorem w_c4 : (Jvm.Cond.code ({ cls := "com/example/riverlock/riverlock/Windows", name := "closes", desc := "(J)J" } : Jvm.MethodName) prog_33_method_4_code (3 : Nat) (Option.some Jvm.ClassFile.FieldType.long)).before args0 about1 = true := code_word (m := ⟨3, 2⟩) (meth := k3m2) (c := k3c2) (by decide +kernel) rfl rfl rfl (by decide +kernel)
set_option maxRecDepth 65536 in
theorem w_c5 : (Jvm.Cond.code ({ cls := "com/example/riverlock/riverlock/Windows", name := "end", desc := "(J)J" } : Jvm.MethodName) prog_33_method_3_code (3 : Nat) (Option.some Jvm.ClassFile.FieldType.long)).before args0 about1 = true := code_word (m := ⟨3, 1⟩) (meth := k3m1) (c := k3c1) (by decide +kernel) rfl rfl rfl (by decide +kernel)
set_option maxRecDepth 65536 in
theorem w_c6 : (Jvm.Cond.code ({ cls := "com/example/riverlock/riverlock/Windows", name := "plus", desc := "(JJ)J" } : Jvm.MethodName) prog_33_method_5_code (6 : Nat) (Option.some Jvm.ClassFile.FieldType.long)).before args0 about1 = true := code_word (m := ⟨3, 3⟩) (meth := k3m3) (c := k3c3) (by decide +kernel) rfl rfl rfl (by decide +kernel)
set_option maxRecDepth 65536 in
theorem w_c7 : (Jvm.Cond.code ({ cls := "com/example/riverlock/riverlock/WindowsClosesPinLaw", name := "satAdd", desc := "(JJ)J" } : Jvm.MethodName) method_2_code (4 : Nat) (Option.some Jvm.ClassFile.FieldType.long)).before args0 about1 = true := code_word (m := ⟨1, 1⟩) (meth := k1m1) (c := k1c1) (by decide +kernel) rfl rfl rfl (by decide +kernel)
def codes1 : List Jvm.Cond := [Jvm.Cond.code x code maxLocals ret, Jvm.Cond.code ({ cls := "com/example/riverlock/riverlock/Windows", name := "<init>", desc := "(JJJ)V" } : Jvm.MethodName) prog_33_method_1_code (7 : Nat) (Option.none : Option Jvm.ClassFile.FieldType), Jvm.Cond.code ({ cls := "java/lang/Record", name := "<init>", desc := "()V" } : Jvm.MethodName) jdk_30_method_1_code (1 : Nat) (Option.none : Option Jvm.ClassFile.FieldType), Jvm.Cond.code ({ cls := "java/lang/Object", name := "<init>", desc := "()V" } : Jvm.MethodName) object_method_1_code (1 : Nat) (Option.none : Option Jvm.ClassFile.FieldType), Jvm.Cond.code ({ cls := "com/example/riverlock/riverlock/Windows", name := "closes", desc := "(J)J" } : Jvm.MethodName) prog_33_method_4_code (3 : Nat) (Option.some Jvm.ClassFile.FieldType.long), Jvm.Cond.code ({ cls := "com/example/riverlock/riverlock/Windows", name := "end", desc := "(J)J" } : Jvm.MethodName) prog_33_method_3_code (3 : Nat) (Option.some Jvm.ClassFile.FieldType.long), Jvm.Cond.code ({ cls := "com/example/riverlock/riverlock/Windows", name := "plus", desc := "(JJ)J" } : Jvm.MethodName) prog_33_method_5_code (6 : Nat) (Option.some Jvm.ClassFile.FieldType.long), Jvm.Cond.code ({ cls := "com/example/riverlock/riverlock/WindowsClosesPinLaw", name := "satAdd", desc := "(JJ)J" } : Jvm.MethodName) method_2_code (4 : Nat) (Option.some Jvm.ClassFile.FieldType.long)]
set_option maxRecDepth 65536 in
theorem codes_eq : words1.filter isCode = codes1 := rfl
theorem w_codes : ∀ c ∈ words1.filter isCode, c.before args0 about1 = true := by
  rw [codes_eq]
  intro c hc
  simp only [codes1, List.mem_cons, List.not_mem_nil, or_false] at hc
  rcases hc with rfl | rfl | rfl | rfl | rfl | rfl | rfl | rfl
  · exact w_c0
  · exact w_c1
  · exact w_c2
  · exact w_c3
  · exact w_c4
  · exact w_c5
  · exact w_c6
  · exact w_c7
set_option maxRecDepth 65536 in
theorem w_t1 : (words1.take 24).all (fun c => isCode c || c.before args0 about1) = true := by decide +kernel
set_option maxRecDepth 65536 in
theorem w_t2 : (words1.drop 24).all (fun c => isCode c || c.before args0 about1) = true := by decide +kernel
theorem w_tables : (allAtoms (Jvm.Cond.code x code maxLocals ret :: tables_1)).before args0 about1 = true := by
  rw [allAtoms_all]
  show words1.all (fun c => c.before args0 about1) = true
  refine all_split ?_ w_codes
  rw [← List.take_append_drop 24 words1, List.all_append, w_t1, w_t2]
  rfl
set_option maxRecDepth 65536 in
theorem w_case : (Jvm.Cond.and given_1 narrow_1).before args0 about1 = true := by decide +kernel
theorem w_applies : (headSpec (Jvm.Cond.code x code maxLocals ret :: tables_1) room_1).applies x e0.platform about1 = true :=
  (Spec.applies_iff w_frames).mpr ⟨w_running, w_runnable, w_alone, w_named, w_hears, w_ripe, w_room, w_tables⟩
theorem atStart : AtStart classFile x code maxLocals ret World_1 tables_1 room_1 Calls_1 rest_1 Pre_1 launch0 p0 e0 about1 theMethod args0 below0 :=
  ⟨lists_1, trivial, launch0.admits_env _ _ _, launch0.least_env, fairChoices_fair.cas, fairChoices_fair.clock, w_frames, w_args, w_heap, w_applies, trivial, trivial, w_case⟩
end start1
theorem witness_1 : WitnessClaimed_1 := ⟨start1.p0, start1.e0, start1.about1, start1.theMethod, start1.args0, start1.below0, start1.atStart⟩
end Jvm.Pilot.@@N@@
