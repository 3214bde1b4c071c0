import JvmDerived
import JvmDerived.Pilot.@@N@@Statement
import JvmDerived.Pilot.@@N@@Code
set_option linter.unusedVariables false
set_option linter.unusedSimpArgs false
namespace Jvm.RoadKit
open Sem ClassFile Op Lib Jvm.Stand Jvm.Free Jvm.LawKit
section New
variable {p : Program} {l : Launch} {e : Env} {R : Room} {s : State} {m : MethodId} {args : Array Value} {below : List Frame} {meth : Method} {c : Code} {T : State} {locs : List Loc} {cells slots : Nat}
theorem retI (X : Stand p l e R s m args below meth c T locs cells slots) (hx : p.tables.exec = Jvm.exec) {pc : Nat} {Ls : Array Slot} {z : Int32} {rest : List Value} (hret : meth.sig.returnType = some .int) (hd : decode c.code pc = .ok (.ireturn, 1)) {fs : List Frame}
    (hl : ∀ (f : JFrame) (acts : List Action), f.method = m → f.locked = none → f.entered = [] → (doReturn e (T.setTop f) acts (some (.int z))).1 = T.setFrames fs) : Steps p.tables e below (T.setTop (mkF m pc Ls (.int z :: rest))) (T.setFrames fs) := by
  have hm' : T.vm.method? m = some meth := X.method'
  have hn : narrow .int (.int z) = .int z := rfl
  show Steps p.tables e below (T.setTop { method := m, pc := pc, locals := Ls, stack := _ :: rest, locked := none }) _
  jvm_step X.here [X.here.top, hx, hd, hm', hret, hn]
  first | (intro acts; rw [hl _ acts rfl rfl rfl]) | rw [hl _ _ rfl rfl rfl]
  exact Steps.refl _
end New
end Jvm.RoadKit
namespace Jvm.Pilot.@@N@@
open Jvm Jvm.ClassFile Sem Op Lib Jvm.Free Jvm.Stand Jvm.LawKit Jvm.RoadKit Bundle Jvm.Pilot.@@N@@.Jvm.D
/-- what the return with the value v leads to -/
def own_RetTo (e : Env) (T : State) (m : MethodId) (v : Option Value) (fs : List Frame) : Prop := ∀ (f : JFrame) (acts : List Action), f.method = m → f.locked = none → f.entered = [] → (doReturn e (T.setTop f) acts v).1 = T.setFrames fs
theorem d1_0 : decode jdk_30_method_1_code 0 = .ok (.aload_n 0, 1) := by decide +kernel
theorem d1_1 : decode jdk_30_method_1_code 1 = .ok (.invokespecial 1, 3) := by decide +kernel
theorem d1_4 : decode jdk_30_method_1_code 4 = .ok (.return_, 1) := by decide +kernel
theorem pn_0 : plainName "java/lang/Record" = true := by first | (simp [plainName, overriddenIn]; done) | decide +kernel
theorem ef_1 (m : MethodId) (x0 : Addr) : entryFrame m #[(.ref x0)] 1 = mkF m 0 #[.val (.ref x0)] [] := by first | (simp [entryFrame, mkF, argsToLocals, Value.category]; done) | rfl
def Q1 (Z : State) (o0 : Addr) (h0 : Heap) (n0 : Nat) (v : Option Value) (h : Heap) (L : List Loc) : Prop := v = none ∧ Fr n0 L ∧ h = h0
set_option maxRecDepth 65536 in
set_option maxHeartbeats 40000000 in
theorem rm1 (l : Launch) (Z : State) (a0 : Array Value) (hw : ∀ d ∈ tables_1, d.before a0 Z = true) (ws : List Jvm.Cond) (o0 : Addr) (h0 : Heap) (n0 : Nat) :
    MetFree l (⟨"java/lang/Record", "<init>", "()V"⟩ : MethodName) (head1 (Jvm.Cond.code (⟨"java/lang/Record", "<init>", "()V"⟩ : MethodName) jdk_30_method_1_code 1 none :: ws) ({ frames := 1, cells := 0, slots := 0, locals := 12 } : Room)) (fun a U => a = #[(.ref o0)] ∧ Z.Warmed39 U.vm ∧ U.heap = h0) (fun _ _ _ _ _ => True) (fun _ U o U' => ∃ v L, o = .returned v ∧ Q1 Z o0 h0 n0 v U'.heap L ∧ FrameEnd U o U' L ({ frames := 1, cells := 0, slots := 0, locals := 12 } : Room).cells ({ frames := 1, cells := 0, slots := 0, locals := 12 } : Room).slots) := by
  refine MetFree.of_bodySF (plainFor_of_name pn_0) hisR ?_
  intro p e s m args below meth c s₁ Bd hml0 hP hK
  obtain ⟨rfl, hZ, hh⟩ := hP
  have hx := Bd.exec
  have hby := Bd.bytes
  have hml : c.maxLocals = 1 := hml0
  have hown : s.vm.findClass "java/lang/Record" = some m.cls := findClass_of_methodNamed Bd.named
  have hnm := (name_of_methodNamed Bd.named Bd.method).1
  have X0 : Stand p l e ({ frames := 1, cells := 0, slots := 0, locals := 12 } : Room) s m #[(.ref o0)] below meth c s₁ [] 0 0 := Stand.of_body Bd
  have e0 : s₁.heap = h0 := by rw [← hh, Bd.state]; rfl
  have N0 := Fr.nil n0
  have pre0 : ∀ t, Steps p.tables e below (s₁.setTop (mkF m 0 #[.val (.ref o0)] [])) t → Steps p.tables e below (s₁.setTop (entryFrame m #[(.ref o0)] 1)) t := fun t k => castTop (ef_1 m o0) k
  obtain ⟨T1, X1, e1, st1⟩ := initO X0 hx hZ hown (hw _ (List.mem_of_getElem? (i := 11) rfl)) (hw _ (List.mem_of_getElem? (i := 12) rfl)) (hw _ (List.mem_of_getElem? (i := 13) rfl)) e0 (g := (mkF m 1 #[.val (.ref o0)] [(.ref o0)])) rfl (by rw [hml]; rfl) rfl (hb hby d1_1) (by decide) (W := 0) (by show 2 * 0 + _ ≤ _; exact Nat.le_of_eq rfl) (by decide)
  obtain ⟨fs, hr, hrun, hended, hW, hsame⟩ := X1.leave (v := none) (fun _ => rfl)
  refine ⟨_, _, pre0 _ ?_, hrun, hended, _, _, rfl, ?_, ⟨_, rfl⟩, hW, hsame.mono (by decide) (by decide)⟩
  · show Steps p.tables e below (s₁.setTop (mkF m 0 #[.val (.ref o0)] [])) _
    refine XS.aloadN X0.here hx rfl (hb hby d1_0) rfl rfl ?_
    show Steps p.tables e below (s₁.setTop (mkF m 1 #[.val (.ref o0)] [(.ref o0)])) _
    refine st1 _ ?_
    show Steps p.tables e below (T1.setTop (mkF m 4 #[.val (.ref o0)] [])) _
    exact X1.returnOut hx Bd.returns (hb hby d1_4) hr
  · show Q1 Z o0 h0 n0 _ T1.heap _
    rw [e1]
    exact ⟨rfl, N0, rfl⟩
theorem pd_0 : parseMethodDescriptor "()V" = some ⟨[], none⟩ := by decide +kernel
theorem d2_0 : decode prog_27_method_1_code 0 = .ok (.aload_n 0, 1) := by decide +kernel
theorem d2_1 : decode prog_27_method_1_code 1 = .ok (.invokespecial 1, 3) := by decide +kernel
theorem d2_4 : decode prog_27_method_1_code 4 = .ok (.aload_n 0, 1) := by decide +kernel
theorem d2_5 : decode prog_27_method_1_code 5 = .ok (.lload_n 1, 1) := by decide +kernel
theorem d2_6 : decode prog_27_method_1_code 6 = .ok (.putfield 7, 3) := by decide +kernel
theorem d2_9 : decode prog_27_method_1_code 9 = .ok (.aload_n 0, 1) := by decide +kernel
theorem d2_10 : decode prog_27_method_1_code 10 = .ok (.lload_n 3, 1) := by decide +kernel
theorem d2_11 : decode prog_27_method_1_code 11 = .ok (.putfield 13, 3) := by decide +kernel
theorem d2_14 : decode prog_27_method_1_code 14 = .ok (.return_, 1) := by decide +kernel
theorem pn_1 : plainName "com/example/gembok/gembok/Moment" = true := by first | (simp [plainName, overriddenIn]; done) | decide +kernel
theorem ef_2 (m : MethodId) (x0 : Addr) (x1 : Int64) (x2 : Int64) : entryFrame m #[(.ref x0), (.long x1), (.long x2)] 5 = mkF m 0 #[.val (.ref x0), .val (.long x1), .second, .val (.long x2), .second] [] := by first | (simp [entryFrame, mkF, argsToLocals, Value.category]; done) | rfl
def Q2 (Z : State) (o0 : Addr) (j1 : Int64) (j2 : Int64) (h0 : Heap) (n0 : Nat) (v : Option Value) (h : Heap) (L : List Loc) : Prop := v = none ∧ Fr n0 L ∧ Keep h0 h [o0] ∧ Exa Z h o0 "com/example/gembok/gembok/Moment" ∧ Fld Z h o0 "com/example/gembok/gembok/Moment" "monotonicNanos" "J" (.long j1)
set_option maxRecDepth 65536 in
set_option maxHeartbeats 40000000 in
theorem rm2 (l : Launch) (Z : State) (a0 : Array Value) (hw : ∀ d ∈ tables_1, d.before a0 Z = true) (ws : List Jvm.Cond) (o0 : Addr) (j1 : Int64) (j2 : Int64) (h0 : Heap) (n0 : Nat) (F1 : Fld Z h0 o0 "com/example/gembok/gembok/Moment" "monotonicNanos" "J" (.long (0 : Int64))) (F2 : Fld Z h0 o0 "com/example/gembok/gembok/Moment" "epochMs" "J" (.long (0 : Int64))) (E1 : Exa Z h0 o0 "com/example/gembok/gembok/Moment") (g_o0 : n0 ≤ o0) :
    MetFree l (⟨"com/example/gembok/gembok/Moment", "<init>", "(JJ)V"⟩ : MethodName) (head1 (Jvm.Cond.code (⟨"com/example/gembok/gembok/Moment", "<init>", "(JJ)V"⟩ : MethodName) prog_27_method_1_code 5 none :: ws) ({ frames := 2, cells := 0, slots := 0, locals := 24 } : Room)) (fun a U => a = #[(.ref o0), (.long j1), (.long j2)] ∧ Z.Warmed39 U.vm ∧ U.heap = h0) (fun _ _ _ _ _ => True) (fun _ U o U' => ∃ v L, o = .returned v ∧ Q2 Z o0 j1 j2 h0 n0 v U'.heap L ∧ FrameEnd U o U' L ({ frames := 2, cells := 0, slots := 0, locals := 24 } : Room).cells ({ frames := 2, cells := 0, slots := 0, locals := 24 } : Room).slots) := by
  refine MetFree.of_bodySF (plainFor_of_name pn_1) hisR ?_
  intro p e s m args below meth c s₁ Bd hml0 hP hK
  obtain ⟨rfl, hZ, hh⟩ := hP
  have hx := Bd.exec
  have hby := Bd.bytes
  have hml : c.maxLocals = 5 := hml0
  have hown : s.vm.findClass "com/example/gembok/gembok/Moment" = some m.cls := findClass_of_methodNamed Bd.named
  have hnm := (name_of_methodNamed Bd.named Bd.method).1
  have X0 : Stand p l e ({ frames := 2, cells := 0, slots := 0, locals := 24 } : Room) s m #[(.ref o0), (.long j1), (.long j2)] below meth c s₁ [] 0 0 := Stand.of_body Bd
  have e0 : s₁.heap = h0 := by rw [← hh, Bd.state]; rfl
  have N0 := Fr.nil n0
  have pre0 : ∀ t, Steps p.tables e below (s₁.setTop (mkF m 0 #[.val (.ref o0), .val (.long j1), .second, .val (.long j2), .second] [])) t → Steps p.tables e below (s₁.setTop (entryFrame m #[(.ref o0), (.long j1), (.long j2)] 5)) t := fun t k => castTop (ef_2 m o0 j1 j2) k
  obtain ⟨_, _, ⟨T1, L1, k1, n1⟩, -, X1, ⟨Lc1, hQ1, l1, y1, z1⟩, st1⟩ := X0.specialBack hx (y := (⟨"java/lang/Record", "<init>", "()V"⟩ : MethodName)) rfl hown (mvT hZ (hw _ (List.mem_of_getElem? (i := 6) rfl))) (mvT hZ (hw _ (List.mem_of_getElem? (i := 7) rfl))) (mvT hZ (hw _ (List.mem_of_getElem? (i := 10) rfl))) (by decide) (backOf (W := 0) (rm1 l Z a0 hw [] o0 h0 n0) hZ (hw _ (List.mem_of_getElem? (i := 10) rfl)) (hw _ (List.mem_of_getElem? (i := 9) rfl)) (by decide) (by decide)) (g := (mkF m 1 #[.val (.ref o0), .val (.long j1), .second, .val (.long j2), .second] [(.ref o0)])) rfl (by rw [hml]; rfl) (Steps.refl _) (a := o0) (argsL := []) (rest := []) (lenOf pd_0 rfl) rfl (by show 2 * 0 + _ ≤ _; exact Nat.le_of_eq rfl) (hb hby d2_1) (fun _ _ => ⟨rfl, e0, (by decide : 0 + 0 ≤ _), (by decide : 0 + 0 ≤ _)⟩)
  dsimp only [Pt.U, Pt.locs, Pt.cells, Pt.slots] at X1 l1 y1 z1 st1 hQ1
  subst l1 y1 z1
  obtain ⟨rfl, N1q, e1q⟩ := hQ1
  have N1 := Fr.app N0 N1q
  obtain ⟨T2, h2, X2, e2, W2, st2⟩ := putF X1 hx hZ hown (host := "") (Or.inl (hw _ (List.mem_of_getElem? (i := 14) rfl))) Via.refl e1q F1 E1 (Or.inr ⟨(hw _ (List.mem_of_getElem? (i := 15) rfl)), rfl, hnm⟩) (hw _ (List.mem_of_getElem? (i := 1) rfl)) (ty := .long) (by decide) rfl rfl (g := (mkF m 6 #[.val (.ref o0), .val (.long j1), .second, .val (.long j2), .second] [(.long j1), (.ref o0)])) rfl rfl (hb hby d2_6)
  have N2f := Fr.snoc X2 N1 g_o0
  have F2a := F2.other W2 (Or.inr (Jvm.RoadKit.slot_ne (Or.inr (hw _ (List.mem_of_getElem? (i := 17) rfl))) (Or.inr (hw _ (List.mem_of_getElem? (i := 15) rfl))) (by decide) (t := .long) (t' := .long) (by decide) (by decide)))
  have F1a := F1.same W2
  have E1a := E1.wr W2
  obtain ⟨T3, h3, X3, e3, W3, st3⟩ := putF X2 hx hZ hown (host := "") (Or.inl (hw _ (List.mem_of_getElem? (i := 16) rfl))) Via.refl e2 F2a E1a (Or.inr ⟨(hw _ (List.mem_of_getElem? (i := 17) rfl)), rfl, hnm⟩) (hw _ (List.mem_of_getElem? (i := 1) rfl)) (ty := .long) (by decide) rfl rfl (g := (mkF m 11 #[.val (.ref o0), .val (.long j1), .second, .val (.long j2), .second] [(.long j2), (.ref o0)])) rfl rfl (hb hby d2_11)
  have N3f := Fr.snoc X3 N2f g_o0
  have F1b := F1a.other W3 (Or.inr (Jvm.RoadKit.slot_ne (Or.inr (hw _ (List.mem_of_getElem? (i := 15) rfl))) (Or.inr (hw _ (List.mem_of_getElem? (i := 17) rfl))) (by decide) (t := .long) (t' := .long) (by decide) (by decide)))
  have E1b := E1a.wr W3
  have Kb : Keep h0 h3 [o0] := ((Keep.refl h0 [o0]).wr W2 (Or.inl (List.mem_of_getElem? (i := 0) rfl))).wr W3 (Or.inl (List.mem_of_getElem? (i := 0) rfl))
  obtain ⟨fs, hr, hrun, hended, hW, hsame⟩ := X3.leave (v := none) (fun _ => rfl)
  refine ⟨_, _, pre0 _ ?_, hrun, hended, _, _, rfl, ?_, ⟨_, rfl⟩, hW, hsame.mono (by decide) (by decide)⟩
  · show Steps p.tables e below (s₁.setTop (mkF m 0 #[.val (.ref o0), .val (.long j1), .second, .val (.long j2), .second] [])) _
    refine XS.aloadN X0.here hx rfl (hb hby d2_0) rfl rfl ?_
    show Steps p.tables e below (s₁.setTop (mkF m 1 #[.val (.ref o0), .val (.long j1), .second, .val (.long j2), .second] [(.ref o0)])) _
    refine st1.trans ?_
    show Steps p.tables e below (T1.setTop (mkF m 4 #[.val (.ref o0), .val (.long j1), .second, .val (.long j2), .second] [])) _
    refine XS.aloadN X1.here hx rfl (hb hby d2_4) rfl rfl ?_
    show Steps p.tables e below (T1.setTop (mkF m 5 #[.val (.ref o0), .val (.long j1), .second, .val (.long j2), .second] [(.ref o0)])) _
    refine XS.lloadN X1.here hx rfl (hb hby d2_5) rfl ?_
    show Steps p.tables e below (T1.setTop (mkF m 6 #[.val (.ref o0), .val (.long j1), .second, .val (.long j2), .second] [(.long j1), (.ref o0)])) _
    refine st2 _ ?_
    show Steps p.tables e below (T2.setTop (mkF m 9 #[.val (.ref o0), .val (.long j1), .second, .val (.long j2), .second] [])) _
    refine XS.aloadN X2.here hx rfl (hb hby d2_9) rfl rfl ?_
    show Steps p.tables e below (T2.setTop (mkF m 10 #[.val (.ref o0), .val (.long j1), .second, .val (.long j2), .second] [(.ref o0)])) _
    refine XS.lloadN X2.here hx rfl (hb hby d2_10) rfl ?_
    show Steps p.tables e below (T2.setTop (mkF m 11 #[.val (.ref o0), .val (.long j1), .second, .val (.long j2), .second] [(.long j2), (.ref o0)])) _
    refine st3 _ ?_
    show Steps p.tables e below (T3.setTop (mkF m 14 #[.val (.ref o0), .val (.long j1), .second, .val (.long j2), .second] [])) _
    exact X3.returnOut hx Bd.returns (hb hby d2_14) hr
  · show Q2 Z o0 j1 j2 h0 n0 _ T3.heap _
    rw [e3]
    exact ⟨rfl, N3f, Kb, E1b, F1b⟩
def f3_8 (v0 : Int64) (v1 : Int64) : Int32 := (if v1 < v0 then (1 : Int32) else (0 : Int32))
theorem d3_0 : decode prog_27_method_3_code 0 = .ok (.aload_n 0, 1) := by decide +kernel
theorem d3_1 : decode prog_27_method_3_code 1 = .ok (.getfield 7, 3) := by decide +kernel
theorem d3_4 : decode prog_27_method_3_code 4 = .ok (.aload_n 1, 1) := by decide +kernel
theorem d3_5 : decode prog_27_method_3_code 5 = .ok (.getfield 7, 3) := by decide +kernel
theorem d3_8 : decode prog_27_method_3_code 8 = .ok (.lcmp, 1) := by decide +kernel
theorem d3_9 : decode prog_27_method_3_code 9 = .ok (.ifCond .le 7, 3) := by decide +kernel
theorem d3_12 : decode prog_27_method_3_code 12 = .ok (.iconst 1, 1) := by decide +kernel
theorem d3_13 : decode prog_27_method_3_code 13 = .ok (.goto 4, 3) := by decide +kernel
theorem d3_16 : decode prog_27_method_3_code 16 = .ok (.iconst 0, 1) := by decide +kernel
theorem d3_17 : decode prog_27_method_3_code 17 = .ok (.ireturn, 1) := by decide +kernel
theorem ef_3 (m : MethodId) (x0 : Addr) (x1 : Addr) : entryFrame m #[(.ref x0), (.ref x1)] 2 = mkF m 0 #[.val (.ref x0), .val (.ref x1)] [] := by first | (simp [entryFrame, mkF, argsToLocals, Value.category]; done) | rfl
def Q3 (Z : State) (o0 : Addr) (o1 : Addr) (v0 : Int64) (v1 : Int64) (h0 : Heap) (n0 : Nat) (v : Option Value) (h : Heap) (L : List Loc) : Prop := v = some (.int (f3_8 v0 v1)) ∧ Fr n0 L ∧ h = h0
set_option maxRecDepth 65536 in
set_option maxHeartbeats 40000000 in
theorem rm3 (l : Launch) (Z : State) (a0 : Array Value) (hw : ∀ d ∈ tables_1, d.before a0 Z = true) (ws : List Jvm.Cond) (o0 : Addr) (o1 : Addr) (v0 : Int64) (v1 : Int64) (h0 : Heap) (n0 : Nat) (Fa : Fld Z h0 o0 "com/example/gembok/gembok/Moment" "monotonicNanos" "J" (.long v0)) (Fb : Fld Z h0 o1 "com/example/gembok/gembok/Moment" "monotonicNanos" "J" (.long v1)) :
    MetFree l (⟨"com/example/gembok/gembok/Moment", "isAfter", "(Lcom/example/gembok/gembok/Moment;)Z"⟩ : MethodName) (head1 (Jvm.Cond.code (⟨"com/example/gembok/gembok/Moment", "isAfter", "(Lcom/example/gembok/gembok/Moment;)Z"⟩ : MethodName) prog_27_method_3_code 2 (some .boolean) :: ws) ({ frames := 0, cells := 0, slots := 0, locals := 0 } : Room)) (fun a U => a = #[(.ref o0), (.ref o1)] ∧ Z.Warmed39 U.vm ∧ U.heap = h0) (fun _ _ _ _ _ => True) (fun _ U o U' => ∃ v L, o = .returned v ∧ Q3 Z o0 o1 v0 v1 h0 n0 v U'.heap L ∧ FrameEnd U o U' L ({ frames := 0, cells := 0, slots := 0, locals := 0 } : Room).cells ({ frames := 0, cells := 0, slots := 0, locals := 0 } : Room).slots) := by
  refine MetFree.of_bodySF (plainFor_of_name pn_1) hisR ?_
  intro p e s m args below meth c s₁ Bd hml0 hP hK
  obtain ⟨rfl, hZ, hh⟩ := hP
  have hx := Bd.exec
  have hby := Bd.bytes
  have hml : c.maxLocals = 2 := hml0
  have hown : s.vm.findClass "com/example/gembok/gembok/Moment" = some m.cls := findClass_of_methodNamed Bd.named
  have hnm := (name_of_methodNamed Bd.named Bd.method).1
  have X0 : Stand p l e ({ frames := 0, cells := 0, slots := 0, locals := 0 } : Room) s m #[(.ref o0), (.ref o1)] below meth c s₁ [] 0 0 := Stand.of_body Bd
  have e0 : s₁.heap = h0 := by rw [← hh, Bd.state]; rfl
  have N0 := Fr.nil n0
  have pre0 : ∀ t, Steps p.tables e below (s₁.setTop (mkF m 0 #[.val (.ref o0), .val (.ref o1)] [])) t → Steps p.tables e below (s₁.setTop (entryFrame m #[(.ref o0), (.ref o1)] 2)) t := fun t k => castTop (ef_3 m o0 o1) k
  obtain ⟨T1, X1, e1, st1⟩ := getF X0 hx hZ hown (host := "") (Or.inl (hw _ (List.mem_of_getElem? (i := 14) rfl))) Via.refl e0 Fa (g := (mkF m 1 #[.val (.ref o0), .val (.ref o1)] [(.ref o0)])) rfl rfl (hb hby d3_1)
  obtain ⟨T2, X2, e2, st2⟩ := getF X1 hx hZ hown (host := "") (Or.inl (hw _ (List.mem_of_getElem? (i := 14) rfl))) Via.refl e1 Fb (g := (mkF m 5 #[.val (.ref o0), .val (.ref o1)] [(.ref o1), (.long v0)])) rfl rfl (hb hby d3_5)
  have sg8 : ∀ {fs : List Frame}, own_RetTo e T2 m (some (.int (f3_8 v0 v1))) fs → Steps p.tables e below (T2.setTop (mkF m 8 #[.val (.ref o0), .val (.ref o1)] [(.long v1), (.long v0)])) (T2.setFrames fs) := by
    intro fs hr
    show Steps p.tables e below (T2.setTop (mkF m 8 #[.val (.ref o0), .val (.ref o1)] [(.long v1), (.long v0)])) _
    refine XS.lcmp X2.here hx rfl (hb hby d3_8) rfl ?_
    show Steps p.tables e below (T2.setTop (mkF m 9 #[.val (.ref o0), .val (.ref o1)] [(.int (lcmpW v0 v1))])) _
    by_cases hc9 : v1 < v0
    · refine XS.ifNo X2.here hx rfl (hb hby d3_9) rfl ((if0 _ _).trans (tlt ((lw_gt v0 v1).mpr hc9)).2.2.2) ?_
      show Steps p.tables e below (T2.setTop (mkF m 12 #[.val (.ref o0), .val (.ref o1)] [])) _
      refine XS.iconst X2.here hx rfl (hb hby d3_12) ?_
      show Steps p.tables e below (T2.setTop (mkF m 13 #[.val (.ref o0), .val (.ref o1)] [(.int (1 : Int32))])) _
      refine XS.goto X2.here hx rfl (pc0 := 13) (pc' := 17) rfl (hb hby d3_13) (by decide) (by decide) ?_
      have hv : f3_8 v0 v1 = (1 : Int32) := by unfold f3_8; rw [if_pos hc9]
      rw [hv] at hr
      show Steps p.tables e below (T2.setTop (mkF m 17 #[.val (.ref o0), .val (.ref o1)] [(.int (1 : Int32))])) _
      exact retN X2 hx (t := .boolean) Bd.returns (by simp) (hb hby d3_17) hr
    · refine XS.ifYes X2.here hx rfl (pc0 := 9) (pc' := 16) rfl (hb hby d3_9) rfl ((if0 _ _).trans (flt (fun q => hc9 ((lw_gt v0 v1).mp q))).2.2.2) (by decide) (by decide) ?_
      show Steps p.tables e below (T2.setTop (mkF m 16 #[.val (.ref o0), .val (.ref o1)] [])) _
      refine XS.iconst X2.here hx rfl (hb hby d3_16) ?_
      have hv : f3_8 v0 v1 = (0 : Int32) := by unfold f3_8; rw [if_neg hc9]
      rw [hv] at hr
      show Steps p.tables e below (T2.setTop (mkF m 17 #[.val (.ref o0), .val (.ref o1)] [(.int (0 : Int32))])) _
      exact retN X2 hx (t := .boolean) Bd.returns (by simp) (hb hby d3_17) hr
  obtain ⟨fs, hr, hrun, hended, hW, hsame⟩ := X2.leave (v := some (.int (f3_8 v0 v1))) (fun h => by rw [Bd.returns] at h; cases h)
  refine ⟨_, _, pre0 _ ?_, hrun, hended, _, _, rfl, ?_, ⟨_, rfl⟩, hW, hsame.mono (by decide) (by decide)⟩
  · show Steps p.tables e below (s₁.setTop (mkF m 0 #[.val (.ref o0), .val (.ref o1)] [])) _
    refine XS.aloadN X0.here hx rfl (hb hby d3_0) rfl rfl ?_
    show Steps p.tables e below (s₁.setTop (mkF m 1 #[.val (.ref o0), .val (.ref o1)] [(.ref o0)])) _
    refine st1 _ ?_
    show Steps p.tables e below (T1.setTop (mkF m 4 #[.val (.ref o0), .val (.ref o1)] [(.long v0)])) _
    refine XS.aloadN X1.here hx rfl (hb hby d3_4) rfl rfl ?_
    show Steps p.tables e below (T1.setTop (mkF m 5 #[.val (.ref o0), .val (.ref o1)] [(.ref o1), (.long v0)])) _
    refine st2 _ ?_
    show Steps p.tables e below (T2.setTop (mkF m 8 #[.val (.ref o0), .val (.ref o1)] [(.long v1), (.long v0)])) _
    exact sg8 hr
  · show Q3 Z o0 o1 v0 v1 h0 n0 _ T2.heap _
    rw [e2]
    exact ⟨rfl, N0, rfl⟩
def f4_0 (j0 : Int64) (j1 : Int64) : Int64 := (if j0 < j1 then j1 else j0)
theorem d4_0 : decode jdk_29_method_66_code 0 = .ok (.lload_n 0, 1) := by decide +kernel
theorem d4_1 : decode jdk_29_method_66_code 1 = .ok (.lload_n 2, 1) := by decide +kernel
theorem d4_2 : decode jdk_29_method_66_code 2 = .ok (.lcmp, 1) := by decide +kernel
theorem d4_3 : decode jdk_29_method_66_code 3 = .ok (.ifCond .lt 7, 3) := by decide +kernel
theorem d4_6 : decode jdk_29_method_66_code 6 = .ok (.lload_n 0, 1) := by decide +kernel
theorem d4_7 : decode jdk_29_method_66_code 7 = .ok (.goto 4, 3) := by decide +kernel
theorem d4_10 : decode jdk_29_method_66_code 10 = .ok (.lload_n 2, 1) := by decide +kernel
theorem d4_11 : decode jdk_29_method_66_code 11 = .ok (.lreturn, 1) := by decide +kernel
theorem ef_4 (m : MethodId) (x0 : Int64) (x1 : Int64) : entryFrame m #[(.long x0), (.long x1)] 4 = mkF m 0 #[.val (.long x0), .second, .val (.long x1), .second] [] := by first | (simp [entryFrame, mkF, argsToLocals, Value.category]; done) | rfl
def Q4 (Z : State) (j0 : Int64) (j1 : Int64) (h0 : Heap) (n0 : Nat) (v : Option Value) (h : Heap) (L : List Loc) : Prop := v = some (.long (f4_0 j0 j1)) ∧ Fr n0 L ∧ h = h0
set_option maxRecDepth 65536 in
set_option maxHeartbeats 40000000 in
theorem rm4 (l : Launch) (Z : State) (a0 : Array Value) (hw : ∀ d ∈ tables_1, d.before a0 Z = true) (ws : List Jvm.Cond) (j0 : Int64) (j1 : Int64) (h0 : Heap) (n0 : Nat) :
    MetFree l (⟨"java/lang/Math", "max", "(JJ)J"⟩ : MethodName) (head1 (Jvm.Cond.code (⟨"java/lang/Math", "max", "(JJ)J"⟩ : MethodName) jdk_29_method_66_code 4 (some .long) :: ws) ({ frames := 0, cells := 0, slots := 0, locals := 0 } : Room)) (fun a U => a = #[(.long j0), (.long j1)] ∧ Z.Warmed39 U.vm ∧ U.heap = h0) (fun _ _ _ _ _ => True) (fun _ U o U' => ∃ v L, o = .returned v ∧ Q4 Z j0 j1 h0 n0 v U'.heap L ∧ FrameEnd U o U' L ({ frames := 0, cells := 0, slots := 0, locals := 0 } : Room).cells ({ frames := 0, cells := 0, slots := 0, locals := 0 } : Room).slots) := by
  refine MetFree.of_bodySF (Jvm.Free.JP.mathPlain rfl (by decide +kernel)) hisR ?_
  intro p e s m args below meth c s₁ Bd hml0 hP hK
  obtain ⟨rfl, hZ, hh⟩ := hP
  have hx := Bd.exec
  have hby := Bd.bytes
  have hml : c.maxLocals = 4 := hml0
  have hown : s.vm.findClass "java/lang/Math" = some m.cls := findClass_of_methodNamed Bd.named
  have hnm := (name_of_methodNamed Bd.named Bd.method).1
  have X0 : Stand p l e ({ frames := 0, cells := 0, slots := 0, locals := 0 } : Room) s m #[(.long j0), (.long j1)] below meth c s₁ [] 0 0 := Stand.of_body Bd
  have e0 : s₁.heap = h0 := by rw [← hh, Bd.state]; rfl
  have N0 := Fr.nil n0
  have pre0 : ∀ t, Steps p.tables e below (s₁.setTop (mkF m 0 #[.val (.long j0), .second, .val (.long j1), .second] [])) t → Steps p.tables e below (s₁.setTop (entryFrame m #[(.long j0), (.long j1)] 4)) t := fun t k => castTop (ef_4 m j0 j1) k
  have sg0 : ∀ {fs : List Frame}, own_RetTo e s₁ m (some (.long (f4_0 j0 j1))) fs → Steps p.tables e below (s₁.setTop (mkF m 0 #[.val (.long j0), .second, .val (.long j1), .second] [])) (s₁.setFrames fs) := by
    intro fs hr
    show Steps p.tables e below (s₁.setTop (mkF m 0 #[.val (.long j0), .second, .val (.long j1), .second] [])) _
    refine XS.lloadN X0.here hx rfl (hb hby d4_0) rfl ?_
    show Steps p.tables e below (s₁.setTop (mkF m 1 #[.val (.long j0), .second, .val (.long j1), .second] [(.long j0)])) _
    refine XS.lloadN X0.here hx rfl (hb hby d4_1) rfl ?_
    show Steps p.tables e below (s₁.setTop (mkF m 2 #[.val (.long j0), .second, .val (.long j1), .second] [(.long j1), (.long j0)])) _
    refine XS.lcmp X0.here hx rfl (hb hby d4_2) rfl ?_
    show Steps p.tables e below (s₁.setTop (mkF m 3 #[.val (.long j0), .second, .val (.long j1), .second] [(.int (lcmpW j0 j1))])) _
    by_cases hc3 : j0 < j1
    · refine XS.ifYes X0.here hx rfl (pc0 := 3) (pc' := 10) rfl (hb hby d4_3) rfl ((if0 _ _).trans (tlt ((lw_lt j0 j1).mpr hc3)).1) (by decide) (by decide) ?_
      show Steps p.tables e below (s₁.setTop (mkF m 10 #[.val (.long j0), .second, .val (.long j1), .second] [])) _
      refine XS.lloadN X0.here hx rfl (hb hby d4_10) rfl ?_
      have hv : f4_0 j0 j1 = j1 := by unfold f4_0; rw [if_pos hc3]
      rw [hv] at hr
      show Steps p.tables e below (s₁.setTop (mkF m 11 #[.val (.long j0), .second, .val (.long j1), .second] [(.long j1)])) _
      exact X0.lreturnOut hx Bd.returns (hb hby d4_11) hr
    · refine XS.ifNo X0.here hx rfl (hb hby d4_3) rfl ((if0 _ _).trans (flt (fun q => hc3 ((lw_lt j0 j1).mp q))).1) ?_
      show Steps p.tables e below (s₁.setTop (mkF m 6 #[.val (.long j0), .second, .val (.long j1), .second] [])) _
      refine XS.lloadN X0.here hx rfl (hb hby d4_6) rfl ?_
      show Steps p.tables e below (s₁.setTop (mkF m 7 #[.val (.long j0), .second, .val (.long j1), .second] [(.long j0)])) _
      refine XS.goto X0.here hx rfl (pc0 := 7) (pc' := 11) rfl (hb hby d4_7) (by decide) (by decide) ?_
      have hv : f4_0 j0 j1 = j0 := by unfold f4_0; rw [if_neg hc3]
      rw [hv] at hr
      show Steps p.tables e below (s₁.setTop (mkF m 11 #[.val (.long j0), .second, .val (.long j1), .second] [(.long j0)])) _
      exact X0.lreturnOut hx Bd.returns (hb hby d4_11) hr
  obtain ⟨fs, hr, hrun, hended, hW, hsame⟩ := X0.leave (v := some (.long (f4_0 j0 j1))) (fun h => by rw [Bd.returns] at h; cases h)
  refine ⟨_, _, pre0 _ ?_, hrun, hended, _, _, rfl, ?_, ⟨_, rfl⟩, hW, hsame.mono (by decide) (by decide)⟩
  · show Steps p.tables e below (s₁.setTop (mkF m 0 #[.val (.long j0), .second, .val (.long j1), .second] [])) _
    exact sg0 hr
  · show Q4 Z j0 j1 h0 n0 _ s₁.heap _
    rw [e0]
    exact ⟨rfl, N0, rfl⟩
theorem own_s0 (ux : Int64) : f3_8 ux ux = (0 : Int32) := by unfold f3_8; rw [if_neg (Int64.lt_irrefl)]
theorem own_s1 {ux uy : Int64} (h : ux = uy) : f3_8 ux uy = (0 : Int32) := by subst h; exact own_s0 _
theorem own_s2 {ux uy : Int64} (h : ux = uy) : f3_8 uy ux = (0 : Int32) := by subst h; exact own_s0 _
theorem own_s3 (ux : Int64) : f3_8 ux ux = (0 : Int32) := own_s0 ux
theorem pd_1 : parseMethodDescriptor "(JJ)V" = some ⟨[.long, .long], none⟩ := by decide +kernel
theorem pd_2 : parseMethodDescriptor "(Lcom/example/gembok/gembok/Moment;)Z" = some ⟨[(.object "com/example/gembok/gembok/Moment")], some .boolean⟩ := by decide +kernel
theorem pn_2 : plainName "com/example/gembok/gembok/MomentIsAfterPinLaw" = true := by first | (simp [plainName, overriddenIn]; done) | decide +kernel
theorem ef_0a (m : MethodId) (x0 : Int64) (x1 : Int64) (x2 : Int64) (x3 : Int64) : entryFrame m #[(.long x0), (.long x1), (.long x2), (.long x3)] maxLocals = mkF m 0 #[.val (.long x0), .second, .val (.long x1), .second, .val (.long x2), .second, .val (.long x3), .second, .unset, .unset, .unset, .unset, .unset, .unset, .unset] [] := by first | (simp [entryFrame, mkF, argsToLocals, Value.category, maxLocals]; done) | rfl
def Q0a (Z : State) (ux : Int64) (uy : Int64) (ue : Int64) (uf : Int64) (h0 : Heap) (n0 : Nat) (v : Option Value) (h : Heap) (L : List Loc) : Prop := v = some (.int (1 : Int32)) ∧ Fr n0 L
set_option maxRecDepth 65536 in
set_option maxHeartbeats 40000000 in
theorem rm0a (l : Launch) (Z : State) (a0 : Array Value) (hw : ∀ d ∈ tables_1, d.before a0 Z = true) (ws : List Jvm.Cond) (ux : Int64) (uy : Int64) (ue : Int64) (uf : Int64) (h0 : Heap) (n0 : Nat) (Z0 : n0 ≤ h0.size) (hxy : ux = uy) :
    MetFree l x (head1 (Jvm.Cond.code x code maxLocals ret :: ws) room_1) (fun a U => a = #[(.long ux), (.long uy), (.long ue), (.long uf)] ∧ Z.Warmed39 U.vm ∧ U.heap = h0) (fun _ _ _ _ _ => True) (fun _ U o U' => ∃ v L, o = .returned v ∧ Q0a Z ux uy ue uf h0 n0 v U'.heap L ∧ FrameEnd U o U' L 2 4) := by
  refine MetFree.of_bodySF (plainFor_of_name pn_2) hisR ?_
  intro p e s m args below meth c s₁ Bd hml0 hP hK
  obtain ⟨rfl, hZ, hh⟩ := hP
  have hx := Bd.exec
  have hby := Bd.bytes
  have hml : c.maxLocals = 15 := hml0
  have hown : s.vm.findClass "com/example/gembok/gembok/MomentIsAfterPinLaw" = some m.cls := findClass_of_methodNamed Bd.named
  have hnm := (name_of_methodNamed Bd.named Bd.method).1
  have X0 : Stand p l e room_1 s m #[(.long ux), (.long uy), (.long ue), (.long uf)] below meth c s₁ [] 0 0 := Stand.of_body Bd
  have e0 : s₁.heap = h0 := by rw [← hh, Bd.state]; rfl
  have N0 := Fr.nil n0
  have pre0 : ∀ t, Steps p.tables e below (s₁.setTop (mkF m 0 #[.val (.long ux), .second, .val (.long uy), .second, .val (.long ue), .second, .val (.long uf), .second, .unset, .unset, .unset, .unset, .unset, .unset, .unset] [])) t → Steps p.tables e below (s₁.setTop (entryFrame m #[(.long ux), (.long uy), (.long ue), (.long uf)] maxLocals)) t := fun t k => castTop (ef_0a m ux uy ue uf) k
  obtain ⟨T1, h1, X1, e1, E1, E_oa, D1, -, st1⟩ := newO X0 hx hZ hown (hw _ (List.mem_of_getElem? (i := 0) rfl)) (hw _ (List.mem_of_getElem? (i := 1) rfl)) (hw _ (List.mem_of_getElem? (i := 2) rfl)) e0 (g := (mkF m 0 #[.val (.long ux), .second, .val (.long uy), .second, .val (.long ue), .second, .val (.long uf), .second, .unset, .unset, .unset, .unset, .unset, .unset, .unset] [])) rfl (hb hby at_0) (by decide) (by decide)
  obtain ⟨oa, sz_oa⟩ : ∃ z, z = h0.size := ⟨_, rfl⟩
  rw [← sz_oa] at E_oa D1 st1
  have F_monotonicNanos_oa : Fld Z h1 oa "com/example/gembok/gembok/Moment" "monotonicNanos" "J" (.long (0 : Int64)) := D1 (Or.inr (hw _ (List.mem_of_getElem? (i := 15) rfl))) (ty := .long) (by decide)
  have F_epochMs_oa : Fld Z h1 oa "com/example/gembok/gembok/Moment" "epochMs" "J" (.long (0 : Int64)) := D1 (Or.inr (hw _ (List.mem_of_getElem? (i := 17) rfl))) (ty := .long) (by decide)
  have g_oa : n0 ≤ oa := Nat.le_trans Z0 (Nat.le_of_eq sz_oa.symm)
  have Zp2 : n0 ≤ h1.size := Nat.le_trans Z0 E1.1
  obtain ⟨_, _, ⟨T3, L3, k3, n3⟩, -, X3, ⟨Lc3, hQ3, l3, y3, z3⟩, st3⟩ := X1.specialBack hx (y := (⟨"com/example/gembok/gembok/Moment", "<init>", "(JJ)V"⟩ : MethodName)) rfl hown (mvT hZ (hw _ (List.mem_of_getElem? (i := 3) rfl))) (mvT hZ (hw _ (List.mem_of_getElem? (i := 4) rfl))) (mvT hZ (hw _ (List.mem_of_getElem? (i := 5) rfl))) (by decide) (backOf (W := 1) (rm2 l Z a0 hw [] oa ux ue h1 n0 F_monotonicNanos_oa F_epochMs_oa E_oa g_oa) hZ (hw _ (List.mem_of_getElem? (i := 5) rfl)) (hw _ (List.mem_of_getElem? (i := 2) rfl)) (by decide) (by decide)) (g := (mkF m 7 #[.val (.long ux), .second, .val (.long uy), .second, .val (.long ue), .second, .val (.long uf), .second, .unset, .unset, .unset, .unset, .unset, .unset, .unset] [(.long ue), (.long ux), (.ref oa), (.ref oa)])) rfl (by rw [hml]; rfl) (Steps.refl _) (a := oa) (argsL := [(.long ux), (.long ue)]) (rest := [(.ref oa)]) (lenOf pd_1 rfl) rfl (by show 2 * 0 + _ ≤ _; exact Nat.le_of_eq rfl) (hb hby at_7) (fun _ _ => ⟨rfl, e1, (by decide : 1 + 0 ≤ _), (by decide : 2 + 0 ≤ _)⟩)
  dsimp only [Pt.U, Pt.locs, Pt.cells, Pt.slots] at X3 l3 y3 z3 st3 hQ3
  subst l3 y3 z3
  obtain ⟨rfl, N3q, K3, Ea3, Fa3⟩ := hQ3
  have N3 := Fr.app N0 N3q
  have Zp4 : n0 ≤ T3.heap.size := Nat.le_trans Zp2 K3.1
  obtain ⟨T5, h5, X5, e5, E5, E_ob, D5, -, st5⟩ := newO X3 hx hZ hown (hw _ (List.mem_of_getElem? (i := 0) rfl)) (hw _ (List.mem_of_getElem? (i := 1) rfl)) (hw _ (List.mem_of_getElem? (i := 2) rfl)) rfl (g := (mkF m 12 #[.val (.long ux), .second, .val (.long uy), .second, .val (.long ue), .second, .val (.long uf), .second, .val (.ref oa), .unset, .unset, .unset, .unset, .unset, .unset] [])) rfl (hb hby at_12) (by decide) (by decide)
  obtain ⟨ob, sz_ob⟩ : ∃ z, z = T3.heap.size := ⟨_, rfl⟩
  rw [← sz_ob] at E_ob D5 st5
  have F_monotonicNanos_ob : Fld Z h5 ob "com/example/gembok/gembok/Moment" "monotonicNanos" "J" (.long (0 : Int64)) := D5 (Or.inr (hw _ (List.mem_of_getElem? (i := 15) rfl))) (ty := .long) (by decide)
  have F_epochMs_ob : Fld Z h5 ob "com/example/gembok/gembok/Moment" "epochMs" "J" (.long (0 : Int64)) := D5 (Or.inr (hw _ (List.mem_of_getElem? (i := 17) rfl))) (ty := .long) (by decide)
  have g_ob : n0 ≤ ob := Nat.le_trans Zp4 (Nat.le_of_eq sz_ob.symm)
  have Zp6 : n0 ≤ h5.size := Nat.le_trans Zp4 E5.1
  have Ea2 := Ea3.ext E5
  have Fa2 := Fa3.ext E5
  have nab : oa ≠ ob := Nat.ne_of_lt (Nat.lt_of_lt_of_le Ea3.lt (Nat.le_of_eq sz_ob.symm))
  obtain ⟨_, _, ⟨T7, L7, k7, n7⟩, -, X7, ⟨Lc7, hQ7, l7, y7, z7⟩, st7⟩ := X5.specialBack hx (y := (⟨"com/example/gembok/gembok/Moment", "<init>", "(JJ)V"⟩ : MethodName)) rfl hown (mvT hZ (hw _ (List.mem_of_getElem? (i := 3) rfl))) (mvT hZ (hw _ (List.mem_of_getElem? (i := 4) rfl))) (mvT hZ (hw _ (List.mem_of_getElem? (i := 5) rfl))) (by decide) (backOf (W := 1) (rm2 l Z a0 hw [] ob uy uf h5 n0 F_monotonicNanos_ob F_epochMs_ob E_ob g_ob) hZ (hw _ (List.mem_of_getElem? (i := 5) rfl)) (hw _ (List.mem_of_getElem? (i := 2) rfl)) (by decide) (by decide)) (g := (mkF m 19 #[.val (.long ux), .second, .val (.long uy), .second, .val (.long ue), .second, .val (.long uf), .second, .val (.ref oa), .unset, .unset, .unset, .unset, .unset, .unset] [(.long uf), (.long uy), (.ref ob), (.ref ob)])) rfl (by rw [hml]; rfl) (Steps.refl _) (a := ob) (argsL := [(.long uy), (.long uf)]) (rest := [(.ref ob)]) (lenOf pd_1 rfl) rfl (by show 2 * 0 + _ ≤ _; exact Nat.le_of_eq rfl) (hb hby at_19) (fun _ _ => ⟨rfl, e5, (by decide : 2 + 0 ≤ _), (by decide : 4 + 0 ≤ _)⟩)
  dsimp only [Pt.U, Pt.locs, Pt.cells, Pt.slots] at X7 l7 y7 z7 st7 hQ7
  subst l7 y7 z7
  obtain ⟨rfl, N7q, K7, Eb7, Fb7⟩ := hQ7
  have N7 := Fr.app N3 N7q
  have Zp8 : n0 ≤ T7.heap.size := Nat.le_trans Zp6 K7.1
  have Ea3 := Ea2.keep K7
  have Fa3 := Fa2.keep K7 (ninS nab nin0)
  obtain ⟨cq9, kq9, q9a, q9b, q9c⟩ := isOf hZ rfl Ea3
  obtain ⟨_, _, ⟨T9, L9, k9, n9⟩, -, X9, ⟨Lc9, hQ9, l9, y9, z9⟩, st9⟩ := X7.virtualBack hx (y := (⟨"com/example/gembok/gembok/Moment", "isAfter", "(Lcom/example/gembok/gembok/Moment;)Z"⟩ : MethodName)) (z := (⟨"com/example/gembok/gembok/Moment", "isAfter", "(Lcom/example/gembok/gembok/Moment;)Z"⟩ : MethodName)) hown (mvT hZ (hw _ (List.mem_of_getElem? (i := 18) rfl))) (mvT hZ (hw _ (List.mem_of_getElem? (i := 19) rfl))) (notFace_of_selects (args := #[]) (mvT hZ (hw _ (List.mem_of_getElem? (i := 21) rfl)))) (mvT hZ (hw _ (List.mem_of_getElem? (i := 21) rfl))) (mvT hZ (hw _ (List.mem_of_getElem? (i := 20) rfl))) (by decide) (backOf (W := 0) (rm3 l Z a0 hw [] oa ob ux uy T7.heap n0 Fa3 Fb7) hZ (hw _ (List.mem_of_getElem? (i := 22) rfl)) (hw _ (List.mem_of_getElem? (i := 2) rfl)) (by decide) (by decide)) q9a q9c (g := (mkF m 28 #[.val (.long ux), .second, .val (.long uy), .second, .val (.long ue), .second, .val (.long uf), .second, .val (.ref oa), .val (.ref ob), .unset, .unset, .unset, .unset, .unset] [(.ref ob), (.ref oa)])) rfl (by rw [hml]; rfl) (Steps.refl _) (argsL := [(.ref ob)]) (rest := []) (lenOf pd_2 rfl) rfl (by show 2 * 0 + _ ≤ _; exact Nat.le_of_eq rfl) (hb hby at_28) (fun _ _ => ⟨rfl, rfl, (by decide : 2 + 0 ≤ _), (by decide : 4 + 0 ≤ _)⟩)
  dsimp only [Pt.U, Pt.locs, Pt.cells, Pt.slots] at X9 l9 y9 z9 st9 hQ9
  subst l9 y9 z9
  obtain ⟨rfl, N9q, e9q⟩ := hQ9
  have N9 := Fr.app N7 N9q
  obtain ⟨cq10, kq10, q10a, q10b, q10c⟩ := isOf hZ e9q Eb7
  obtain ⟨_, _, ⟨T10, L10, k10, n10⟩, -, X10, ⟨Lc10, hQ10, l10, y10, z10⟩, st10⟩ := X9.virtualBack hx (y := (⟨"com/example/gembok/gembok/Moment", "isAfter", "(Lcom/example/gembok/gembok/Moment;)Z"⟩ : MethodName)) (z := (⟨"com/example/gembok/gembok/Moment", "isAfter", "(Lcom/example/gembok/gembok/Moment;)Z"⟩ : MethodName)) hown (mvT hZ (hw _ (List.mem_of_getElem? (i := 18) rfl))) (mvT hZ (hw _ (List.mem_of_getElem? (i := 19) rfl))) (notFace_of_selects (args := #[]) (mvT hZ (hw _ (List.mem_of_getElem? (i := 21) rfl)))) (mvT hZ (hw _ (List.mem_of_getElem? (i := 21) rfl))) (mvT hZ (hw _ (List.mem_of_getElem? (i := 20) rfl))) (by decide) (backOf (W := 0) (rm3 l Z a0 hw [] ob oa uy ux T7.heap n0 Fb7 Fa3) hZ (hw _ (List.mem_of_getElem? (i := 22) rfl)) (hw _ (List.mem_of_getElem? (i := 2) rfl)) (by decide) (by decide)) q10a q10c (g := (mkF m 37 #[.val (.long ux), .second, .val (.long uy), .second, .val (.long ue), .second, .val (.long uf), .second, .val (.ref oa), .val (.ref ob), .val (.int (f3_8 ux uy)), .unset, .unset, .unset, .unset] [(.ref oa), (.ref ob)])) rfl (by rw [hml]; rfl) (Steps.refl _) (argsL := [(.ref oa)]) (rest := []) (lenOf pd_2 rfl) rfl (by show 2 * 0 + _ ≤ _; exact Nat.le_of_eq rfl) (hb hby at_37) (fun _ _ => ⟨rfl, e9q, (by decide : 2 + 0 ≤ _), (by decide : 4 + 0 ≤ _)⟩)
  dsimp only [Pt.U, Pt.locs, Pt.cells, Pt.slots] at X10 l10 y10 z10 st10 hQ10
  subst l10 y10 z10
  obtain ⟨rfl, N10q, e10q⟩ := hQ10
  have N10 := Fr.app N9 N10q
  obtain ⟨cq11, kq11, q11a, q11b, q11c⟩ := isOf hZ e10q Ea3
  obtain ⟨_, _, ⟨T11, L11, k11, n11⟩, -, X11, ⟨Lc11, hQ11, l11, y11, z11⟩, st11⟩ := X10.virtualBack hx (y := (⟨"com/example/gembok/gembok/Moment", "isAfter", "(Lcom/example/gembok/gembok/Moment;)Z"⟩ : MethodName)) (z := (⟨"com/example/gembok/gembok/Moment", "isAfter", "(Lcom/example/gembok/gembok/Moment;)Z"⟩ : MethodName)) hown (mvT hZ (hw _ (List.mem_of_getElem? (i := 18) rfl))) (mvT hZ (hw _ (List.mem_of_getElem? (i := 19) rfl))) (notFace_of_selects (args := #[]) (mvT hZ (hw _ (List.mem_of_getElem? (i := 21) rfl)))) (mvT hZ (hw _ (List.mem_of_getElem? (i := 21) rfl))) (mvT hZ (hw _ (List.mem_of_getElem? (i := 20) rfl))) (by decide) (backOf (W := 0) (rm3 l Z a0 hw [] oa oa ux ux T7.heap n0 Fa3 Fa3) hZ (hw _ (List.mem_of_getElem? (i := 22) rfl)) (hw _ (List.mem_of_getElem? (i := 2) rfl)) (by decide) (by decide)) q11a q11c (g := (mkF m 46 #[.val (.long ux), .second, .val (.long uy), .second, .val (.long ue), .second, .val (.long uf), .second, .val (.ref oa), .val (.ref ob), .val (.int (f3_8 ux uy)), .val (.int (f3_8 uy ux)), .unset, .unset, .unset] [(.ref oa), (.ref oa)])) rfl (by rw [hml]; rfl) (Steps.refl _) (argsL := [(.ref oa)]) (rest := []) (lenOf pd_2 rfl) rfl (by show 2 * 0 + _ ≤ _; exact Nat.le_of_eq rfl) (hb hby at_46) (fun _ _ => ⟨rfl, e10q, (by decide : 2 + 0 ≤ _), (by decide : 4 + 0 ≤ _)⟩)
  dsimp only [Pt.U, Pt.locs, Pt.cells, Pt.slots] at X11 l11 y11 z11 st11 hQ11
  subst l11 y11 z11
  obtain ⟨rfl, N11q, e11q⟩ := hQ11
  have N11 := Fr.app N10 N11q
  obtain ⟨fs, hr, hrun, hended, hW, hsame⟩ := X11.leave (v := some (.int (1 : Int32))) (fun h => by rw [Bd.returns] at h; cases h)
  refine ⟨_, _, pre0 _ ?_, hrun, hended, _, _, rfl, ?_, ⟨_, rfl⟩, hW, hsame.mono (by decide) (by decide)⟩
  · show Steps p.tables e below (s₁.setTop (mkF m 0 #[.val (.long ux), .second, .val (.long uy), .second, .val (.long ue), .second, .val (.long uf), .second, .unset, .unset, .unset, .unset, .unset, .unset, .unset] [])) _
    refine st1 _ ?_
    show Steps p.tables e below (T1.setTop (mkF m 3 #[.val (.long ux), .second, .val (.long uy), .second, .val (.long ue), .second, .val (.long uf), .second, .unset, .unset, .unset, .unset, .unset, .unset, .unset] [(.ref oa)])) _
    refine XS.dup X1.here hx rfl (hb hby at_3) rfl rfl ?_
    show Steps p.tables e below (T1.setTop (mkF m 4 #[.val (.long ux), .second, .val (.long uy), .second, .val (.long ue), .second, .val (.long uf), .second, .unset, .unset, .unset, .unset, .unset, .unset, .unset] [(.ref oa), (.ref oa)])) _
    refine XS.lloadN X1.here hx rfl (hb hby at_4) rfl ?_
    show Steps p.tables e below (T1.setTop (mkF m 5 #[.val (.long ux), .second, .val (.long uy), .second, .val (.long ue), .second, .val (.long uf), .second, .unset, .unset, .unset, .unset, .unset, .unset, .unset] [(.long ux), (.ref oa), (.ref oa)])) _
    refine XS.lload X1.here hx rfl (hb hby at_5) rfl ?_
    show Steps p.tables e below (T1.setTop (mkF m 7 #[.val (.long ux), .second, .val (.long uy), .second, .val (.long ue), .second, .val (.long uf), .second, .unset, .unset, .unset, .unset, .unset, .unset, .unset] [(.long ue), (.long ux), (.ref oa), (.ref oa)])) _
    refine st3.trans ?_
    show Steps p.tables e below (T3.setTop (mkF m 10 #[.val (.long ux), .second, .val (.long uy), .second, .val (.long ue), .second, .val (.long uf), .second, .unset, .unset, .unset, .unset, .unset, .unset, .unset] [(.ref oa)])) _
    refine XS.astore X3.here hx rfl (hb hby at_10) rfl rfl (l' := #[.val (.long ux), .second, .val (.long uy), .second, .val (.long ue), .second, .val (.long uf), .second, .val (.ref oa), .unset, .unset, .unset, .unset, .unset, .unset]) rfl ?_
    show Steps p.tables e below (T3.setTop (mkF m 12 #[.val (.long ux), .second, .val (.long uy), .second, .val (.long ue), .second, .val (.long uf), .second, .val (.ref oa), .unset, .unset, .unset, .unset, .unset, .unset] [])) _
    refine st5 _ ?_
    show Steps p.tables e below (T5.setTop (mkF m 15 #[.val (.long ux), .second, .val (.long uy), .second, .val (.long ue), .second, .val (.long uf), .second, .val (.ref oa), .unset, .unset, .unset, .unset, .unset, .unset] [(.ref ob)])) _
    refine XS.dup X5.here hx rfl (hb hby at_15) rfl rfl ?_
    show Steps p.tables e below (T5.setTop (mkF m 16 #[.val (.long ux), .second, .val (.long uy), .second, .val (.long ue), .second, .val (.long uf), .second, .val (.ref oa), .unset, .unset, .unset, .unset, .unset, .unset] [(.ref ob), (.ref ob)])) _
    refine XS.lloadN X5.here hx rfl (hb hby at_16) rfl ?_
    show Steps p.tables e below (T5.setTop (mkF m 17 #[.val (.long ux), .second, .val (.long uy), .second, .val (.long ue), .second, .val (.long uf), .second, .val (.ref oa), .unset, .unset, .unset, .unset, .unset, .unset] [(.long uy), (.ref ob), (.ref ob)])) _
    refine XS.lload X5.here hx rfl (hb hby at_17) rfl ?_
    show Steps p.tables e below (T5.setTop (mkF m 19 #[.val (.long ux), .second, .val (.long uy), .second, .val (.long ue), .second, .val (.long uf), .second, .val (.ref oa), .unset, .unset, .unset, .unset, .unset, .unset] [(.long uf), (.long uy), (.ref ob), (.ref ob)])) _
    refine st7.trans ?_
    show Steps p.tables e below (T7.setTop (mkF m 22 #[.val (.long ux), .second, .val (.long uy), .second, .val (.long ue), .second, .val (.long uf), .second, .val (.ref oa), .unset, .unset, .unset, .unset, .unset, .unset] [(.ref ob)])) _
    refine XS.astore X7.here hx rfl (hb hby at_22) rfl rfl (l' := #[.val (.long ux), .second, .val (.long uy), .second, .val (.long ue), .second, .val (.long uf), .second, .val (.ref oa), .val (.ref ob), .unset, .unset, .unset, .unset, .unset]) rfl ?_
    show Steps p.tables e below (T7.setTop (mkF m 24 #[.val (.long ux), .second, .val (.long uy), .second, .val (.long ue), .second, .val (.long uf), .second, .val (.ref oa), .val (.ref ob), .unset, .unset, .unset, .unset, .unset] [])) _
    refine XS.aload X7.here hx rfl (hb hby at_24) rfl rfl ?_
    show Steps p.tables e below (T7.setTop (mkF m 26 #[.val (.long ux), .second, .val (.long uy), .second, .val (.long ue), .second, .val (.long uf), .second, .val (.ref oa), .val (.ref ob), .unset, .unset, .unset, .unset, .unset] [(.ref oa)])) _
    refine XS.aload X7.here hx rfl (hb hby at_26) rfl rfl ?_
    show Steps p.tables e below (T7.setTop (mkF m 28 #[.val (.long ux), .second, .val (.long uy), .second, .val (.long ue), .second, .val (.long uf), .second, .val (.ref oa), .val (.ref ob), .unset, .unset, .unset, .unset, .unset] [(.ref ob), (.ref oa)])) _
    refine st9.trans ?_
    show Steps p.tables e below (T9.setTop (mkF m 31 #[.val (.long ux), .second, .val (.long uy), .second, .val (.long ue), .second, .val (.long uf), .second, .val (.ref oa), .val (.ref ob), .unset, .unset, .unset, .unset, .unset] [(.int (f3_8 ux uy))])) _
    refine XS.istore X9.here hx rfl (hb hby at_31) rfl (l' := #[.val (.long ux), .second, .val (.long uy), .second, .val (.long ue), .second, .val (.long uf), .second, .val (.ref oa), .val (.ref ob), .val (.int (f3_8 ux uy)), .unset, .unset, .unset, .unset]) rfl ?_
    show Steps p.tables e below (T9.setTop (mkF m 33 #[.val (.long ux), .second, .val (.long uy), .second, .val (.long ue), .second, .val (.long uf), .second, .val (.ref oa), .val (.ref ob), .val (.int (f3_8 ux uy)), .unset, .unset, .unset, .unset] [])) _
    refine XS.aload X9.here hx rfl (hb hby at_33) rfl rfl ?_
    show Steps p.tables e below (T9.setTop (mkF m 35 #[.val (.long ux), .second, .val (.long uy), .second, .val (.long ue), .second, .val (.long uf), .second, .val (.ref oa), .val (.ref ob), .val (.int (f3_8 ux uy)), .unset, .unset, .unset, .unset] [(.ref ob)])) _
    refine XS.aload X9.here hx rfl (hb hby at_35) rfl rfl ?_
    show Steps p.tables e below (T9.setTop (mkF m 37 #[.val (.long ux), .second, .val (.long uy), .second, .val (.long ue), .second, .val (.long uf), .second, .val (.ref oa), .val (.ref ob), .val (.int (f3_8 ux uy)), .unset, .unset, .unset, .unset] [(.ref oa), (.ref ob)])) _
    refine st10.trans ?_
    show Steps p.tables e below (T10.setTop (mkF m 40 #[.val (.long ux), .second, .val (.long uy), .second, .val (.long ue), .second, .val (.long uf), .second, .val (.ref oa), .val (.ref ob), .val (.int (f3_8 ux uy)), .unset, .unset, .unset, .unset] [(.int (f3_8 uy ux))])) _
    refine XS.istore X10.here hx rfl (hb hby at_40) rfl (l' := #[.val (.long ux), .second, .val (.long uy), .second, .val (.long ue), .second, .val (.long uf), .second, .val (.ref oa), .val (.ref ob), .val (.int (f3_8 ux uy)), .val (.int (f3_8 uy ux)), .unset, .unset, .unset]) rfl ?_
    show Steps p.tables e below (T10.setTop (mkF m 42 #[.val (.long ux), .second, .val (.long uy), .second, .val (.long ue), .second, .val (.long uf), .second, .val (.ref oa), .val (.ref ob), .val (.int (f3_8 ux uy)), .val (.int (f3_8 uy ux)), .unset, .unset, .unset] [])) _
    refine XS.aload X10.here hx rfl (hb hby at_42) rfl rfl ?_
    show Steps p.tables e below (T10.setTop (mkF m 44 #[.val (.long ux), .second, .val (.long uy), .second, .val (.long ue), .second, .val (.long uf), .second, .val (.ref oa), .val (.ref ob), .val (.int (f3_8 ux uy)), .val (.int (f3_8 uy ux)), .unset, .unset, .unset] [(.ref oa)])) _
    refine XS.aload X10.here hx rfl (hb hby at_44) rfl rfl ?_
    show Steps p.tables e below (T10.setTop (mkF m 46 #[.val (.long ux), .second, .val (.long uy), .second, .val (.long ue), .second, .val (.long uf), .second, .val (.ref oa), .val (.ref ob), .val (.int (f3_8 ux uy)), .val (.int (f3_8 uy ux)), .unset, .unset, .unset] [(.ref oa), (.ref oa)])) _
    refine st11.trans ?_
    show Steps p.tables e below (T11.setTop (mkF m 49 #[.val (.long ux), .second, .val (.long uy), .second, .val (.long ue), .second, .val (.long uf), .second, .val (.ref oa), .val (.ref ob), .val (.int (f3_8 ux uy)), .val (.int (f3_8 uy ux)), .unset, .unset, .unset] [(.int (f3_8 ux ux))])) _
    refine XS.istore X11.here hx rfl (hb hby at_49) rfl (l' := #[.val (.long ux), .second, .val (.long uy), .second, .val (.long ue), .second, .val (.long uf), .second, .val (.ref oa), .val (.ref ob), .val (.int (f3_8 ux uy)), .val (.int (f3_8 uy ux)), .val (.int (f3_8 ux ux)), .unset, .unset]) rfl ?_
    show Steps p.tables e below (T11.setTop (mkF m 51 #[.val (.long ux), .second, .val (.long uy), .second, .val (.long ue), .second, .val (.long uf), .second, .val (.ref oa), .val (.ref ob), .val (.int (f3_8 ux uy)), .val (.int (f3_8 uy ux)), .val (.int (f3_8 ux ux)), .unset, .unset] [])) _
    refine XS.lloadN X11.here hx rfl (hb hby at_51) rfl ?_
    show Steps p.tables e below (T11.setTop (mkF m 52 #[.val (.long ux), .second, .val (.long uy), .second, .val (.long ue), .second, .val (.long uf), .second, .val (.ref oa), .val (.ref ob), .val (.int (f3_8 ux uy)), .val (.int (f3_8 uy ux)), .val (.int (f3_8 ux ux)), .unset, .unset] [(.long ux)])) _
    refine XS.lloadN X11.here hx rfl (hb hby at_52) rfl ?_
    show Steps p.tables e below (T11.setTop (mkF m 53 #[.val (.long ux), .second, .val (.long uy), .second, .val (.long ue), .second, .val (.long uf), .second, .val (.ref oa), .val (.ref ob), .val (.int (f3_8 ux uy)), .val (.int (f3_8 uy ux)), .val (.int (f3_8 ux ux)), .unset, .unset] [(.long uy), (.long ux)])) _
    refine XS.lcmp X11.here hx rfl (hb hby at_53) rfl ?_
    show Steps p.tables e below (T11.setTop (mkF m 54 #[.val (.long ux), .second, .val (.long uy), .second, .val (.long ue), .second, .val (.long uf), .second, .val (.ref oa), .val (.ref ob), .val (.int (f3_8 ux uy)), .val (.int (f3_8 uy ux)), .val (.int (f3_8 ux ux)), .unset, .unset] [(.int (lcmpW ux uy))])) _
    refine XS.ifYes X11.here hx rfl (pc0 := 54) (pc' := 71) rfl (hb hby at_54) rfl ((if0 _ _).trans (teq ((lw_eq ux uy).mpr hxy)).1) (by decide) (by decide) ?_
    show Steps p.tables e below (T11.setTop (mkF m 71 #[.val (.long ux), .second, .val (.long uy), .second, .val (.long ue), .second, .val (.long uf), .second, .val (.ref oa), .val (.ref ob), .val (.int (f3_8 ux uy)), .val (.int (f3_8 uy ux)), .val (.int (f3_8 ux ux)), .unset, .unset] [])) _
    refine XS.iconst X11.here hx rfl (hb hby at_71) ?_
    show Steps p.tables e below (T11.setTop (mkF m 72 #[.val (.long ux), .second, .val (.long uy), .second, .val (.long ue), .second, .val (.long uf), .second, .val (.ref oa), .val (.ref ob), .val (.int (f3_8 ux uy)), .val (.int (f3_8 uy ux)), .val (.int (f3_8 ux ux)), .unset, .unset] [(.int (0 : Int32))])) _
    refine XS.istore X11.here hx rfl (hb hby at_72) rfl (l' := #[.val (.long ux), .second, .val (.long uy), .second, .val (.long ue), .second, .val (.long uf), .second, .val (.ref oa), .val (.ref ob), .val (.int (f3_8 ux uy)), .val (.int (f3_8 uy ux)), .val (.int (f3_8 ux ux)), .val (.int (0 : Int32)), .unset]) rfl ?_
    show Steps p.tables e below (T11.setTop (mkF m 74 #[.val (.long ux), .second, .val (.long uy), .second, .val (.long ue), .second, .val (.long uf), .second, .val (.ref oa), .val (.ref ob), .val (.int (f3_8 ux uy)), .val (.int (f3_8 uy ux)), .val (.int (f3_8 ux ux)), .val (.int (0 : Int32)), .unset] [])) _
    refine XS.lloadN X11.here hx rfl (hb hby at_74) rfl ?_
    show Steps p.tables e below (T11.setTop (mkF m 75 #[.val (.long ux), .second, .val (.long uy), .second, .val (.long ue), .second, .val (.long uf), .second, .val (.ref oa), .val (.ref ob), .val (.int (f3_8 ux uy)), .val (.int (f3_8 uy ux)), .val (.int (f3_8 ux ux)), .val (.int (0 : Int32)), .unset] [(.long ux)])) _
    refine XS.lloadN X11.here hx rfl (hb hby at_75) rfl ?_
    show Steps p.tables e below (T11.setTop (mkF m 76 #[.val (.long ux), .second, .val (.long uy), .second, .val (.long ue), .second, .val (.long uf), .second, .val (.ref oa), .val (.ref ob), .val (.int (f3_8 ux uy)), .val (.int (f3_8 uy ux)), .val (.int (f3_8 ux ux)), .val (.int (0 : Int32)), .unset] [(.long uy), (.long ux)])) _
    refine XS.lcmp X11.here hx rfl (hb hby at_76) rfl ?_
    show Steps p.tables e below (T11.setTop (mkF m 77 #[.val (.long ux), .second, .val (.long uy), .second, .val (.long ue), .second, .val (.long uf), .second, .val (.ref oa), .val (.ref ob), .val (.int (f3_8 ux uy)), .val (.int (f3_8 uy ux)), .val (.int (f3_8 ux ux)), .val (.int (0 : Int32)), .unset] [(.int (lcmpW ux uy))])) _
    refine XS.ifYes X11.here hx rfl (pc0 := 77) (pc' := 94) rfl (hb hby at_77) rfl ((if0 _ _).trans (teq ((lw_eq ux uy).mpr hxy)).1) (by decide) (by decide) ?_
    show Steps p.tables e below (T11.setTop (mkF m 94 #[.val (.long ux), .second, .val (.long uy), .second, .val (.long ue), .second, .val (.long uf), .second, .val (.ref oa), .val (.ref ob), .val (.int (f3_8 ux uy)), .val (.int (f3_8 uy ux)), .val (.int (f3_8 ux ux)), .val (.int (0 : Int32)), .unset] [])) _
    refine XS.iconst X11.here hx rfl (hb hby at_94) ?_
    show Steps p.tables e below (T11.setTop (mkF m 95 #[.val (.long ux), .second, .val (.long uy), .second, .val (.long ue), .second, .val (.long uf), .second, .val (.ref oa), .val (.ref ob), .val (.int (f3_8 ux uy)), .val (.int (f3_8 uy ux)), .val (.int (f3_8 ux ux)), .val (.int (0 : Int32)), .unset] [(.int (0 : Int32))])) _
    refine XS.istore X11.here hx rfl (hb hby at_95) rfl (l' := #[.val (.long ux), .second, .val (.long uy), .second, .val (.long ue), .second, .val (.long uf), .second, .val (.ref oa), .val (.ref ob), .val (.int (f3_8 ux uy)), .val (.int (f3_8 uy ux)), .val (.int (f3_8 ux ux)), .val (.int (0 : Int32)), .val (.int (0 : Int32))]) rfl ?_
    show Steps p.tables e below (T11.setTop (mkF m 97 #[.val (.long ux), .second, .val (.long uy), .second, .val (.long ue), .second, .val (.long uf), .second, .val (.ref oa), .val (.ref ob), .val (.int (f3_8 ux uy)), .val (.int (f3_8 uy ux)), .val (.int (f3_8 ux ux)), .val (.int (0 : Int32)), .val (.int (0 : Int32))] [])) _
    refine XS.iload X11.here hx rfl (hb hby at_97) rfl ?_
    show Steps p.tables e below (T11.setTop (mkF m 99 #[.val (.long ux), .second, .val (.long uy), .second, .val (.long ue), .second, .val (.long uf), .second, .val (.ref oa), .val (.ref ob), .val (.int (f3_8 ux uy)), .val (.int (f3_8 uy ux)), .val (.int (f3_8 ux ux)), .val (.int (0 : Int32)), .val (.int (0 : Int32))] [(.int (f3_8 ux uy))])) _
    refine XS.iload X11.here hx rfl (hb hby at_99) rfl ?_
    show Steps p.tables e below (T11.setTop (mkF m 101 #[.val (.long ux), .second, .val (.long uy), .second, .val (.long ue), .second, .val (.long uf), .second, .val (.ref oa), .val (.ref ob), .val (.int (f3_8 ux uy)), .val (.int (f3_8 uy ux)), .val (.int (f3_8 ux ux)), .val (.int (0 : Int32)), .val (.int (0 : Int32))] [(.int (0 : Int32)), (.int (f3_8 ux uy))])) _
    refine XS.icmpNo X11.here hx rfl (hb hby at_101) rfl (teq (own_s1 hxy)).2 ?_
    show Steps p.tables e below (T11.setTop (mkF m 104 #[.val (.long ux), .second, .val (.long uy), .second, .val (.long ue), .second, .val (.long uf), .second, .val (.ref oa), .val (.ref ob), .val (.int (f3_8 ux uy)), .val (.int (f3_8 uy ux)), .val (.int (f3_8 ux ux)), .val (.int (0 : Int32)), .val (.int (0 : Int32))] [])) _
    refine XS.iload X11.here hx rfl (hb hby at_104) rfl ?_
    show Steps p.tables e below (T11.setTop (mkF m 106 #[.val (.long ux), .second, .val (.long uy), .second, .val (.long ue), .second, .val (.long uf), .second, .val (.ref oa), .val (.ref ob), .val (.int (f3_8 ux uy)), .val (.int (f3_8 uy ux)), .val (.int (f3_8 ux ux)), .val (.int (0 : Int32)), .val (.int (0 : Int32))] [(.int (f3_8 uy ux))])) _
    refine XS.iload X11.here hx rfl (hb hby at_106) rfl ?_
    show Steps p.tables e below (T11.setTop (mkF m 108 #[.val (.long ux), .second, .val (.long uy), .second, .val (.long ue), .second, .val (.long uf), .second, .val (.ref oa), .val (.ref ob), .val (.int (f3_8 ux uy)), .val (.int (f3_8 uy ux)), .val (.int (f3_8 ux ux)), .val (.int (0 : Int32)), .val (.int (0 : Int32))] [(.int (0 : Int32)), (.int (f3_8 uy ux))])) _
    refine XS.icmpNo X11.here hx rfl (hb hby at_108) rfl (teq (own_s2 hxy)).2 ?_
    show Steps p.tables e below (T11.setTop (mkF m 111 #[.val (.long ux), .second, .val (.long uy), .second, .val (.long ue), .second, .val (.long uf), .second, .val (.ref oa), .val (.ref ob), .val (.int (f3_8 ux uy)), .val (.int (f3_8 uy ux)), .val (.int (f3_8 ux ux)), .val (.int (0 : Int32)), .val (.int (0 : Int32))] [])) _
    refine XS.iload X11.here hx rfl (hb hby at_111) rfl ?_
    show Steps p.tables e below (T11.setTop (mkF m 113 #[.val (.long ux), .second, .val (.long uy), .second, .val (.long ue), .second, .val (.long uf), .second, .val (.ref oa), .val (.ref ob), .val (.int (f3_8 ux uy)), .val (.int (f3_8 uy ux)), .val (.int (f3_8 ux ux)), .val (.int (0 : Int32)), .val (.int (0 : Int32))] [(.int (f3_8 ux ux))])) _
    refine XS.ifNo X11.here hx rfl (hb hby at_113) rfl ((if0 _ _).trans (teq (own_s3 ux)).2) ?_
    show Steps p.tables e below (T11.setTop (mkF m 116 #[.val (.long ux), .second, .val (.long uy), .second, .val (.long ue), .second, .val (.long uf), .second, .val (.ref oa), .val (.ref ob), .val (.int (f3_8 ux uy)), .val (.int (f3_8 uy ux)), .val (.int (f3_8 ux ux)), .val (.int (0 : Int32)), .val (.int (0 : Int32))] [])) _
    refine XS.iconst X11.here hx rfl (hb hby at_116) ?_
    show Steps p.tables e below (T11.setTop (mkF m 117 #[.val (.long ux), .second, .val (.long uy), .second, .val (.long ue), .second, .val (.long uf), .second, .val (.ref oa), .val (.ref ob), .val (.int (f3_8 ux uy)), .val (.int (f3_8 uy ux)), .val (.int (f3_8 ux ux)), .val (.int (0 : Int32)), .val (.int (0 : Int32))] [(.int (1 : Int32))])) _
    refine XS.goto X11.here hx rfl (pc0 := 117) (pc' := 121) rfl (hb hby at_117) (by decide) (by decide) ?_
    show Steps p.tables e below (T11.setTop (mkF m 121 #[.val (.long ux), .second, .val (.long uy), .second, .val (.long ue), .second, .val (.long uf), .second, .val (.ref oa), .val (.ref ob), .val (.int (f3_8 ux uy)), .val (.int (f3_8 uy ux)), .val (.int (f3_8 ux ux)), .val (.int (0 : Int32)), .val (.int (0 : Int32))] [(.int (1 : Int32))])) _
    exact retN X11 hx (t := .boolean) Bd.returns (by simp) (hb hby at_121) hr
  · show Q0a Z ux uy ue uf h0 n0 _ T11.heap _
    rw [e11q]
    exact ⟨rfl, N11⟩
theorem pd_3 : parseMethodDescriptor "(JJ)J" = some ⟨[.long, .long], some .long⟩ := by decide +kernel
def g_ab (ux : Int64) (uy : Int64) : Int32 := (if (f4_0 ux uy) = ux then (1 : Int32) else (0 : Int32))
def g_ba (ux : Int64) (uy : Int64) : Int32 := (if (f4_0 ux uy) = uy then (1 : Int32) else (0 : Int32))
theorem own_ab {ux uy : Int64} (h : ¬ ux = uy) : f3_8 ux uy = g_ab ux uy ∧ f3_8 uy ux = g_ba ux uy := by
  unfold g_ab g_ba f3_8 f4_0
  rw [← Int64.toInt_inj] at h
  simp only [Int64.lt_iff_toInt_lt]
  by_cases q : ux.toInt < uy.toInt
  · rw [if_neg (by omega), if_pos q, if_pos q, if_neg (by rw [← Int64.toInt_inj]; omega), if_pos rfl]
    exact ⟨rfl, rfl⟩
  · rw [if_pos (by omega), if_neg q, if_neg q, if_pos rfl, if_neg (by rw [← Int64.toInt_inj]; omega)]
    exact ⟨rfl, rfl⟩
theorem ef_0b (m : MethodId) (x0 : Int64) (x1 : Int64) (x2 : Int64) (x3 : Int64) : entryFrame m #[(.long x0), (.long x1), (.long x2), (.long x3)] maxLocals = mkF m 0 #[.val (.long x0), .second, .val (.long x1), .second, .val (.long x2), .second, .val (.long x3), .second, .unset, .unset, .unset, .unset, .unset, .unset, .unset] [] := by first | (simp [entryFrame, mkF, argsToLocals, Value.category, maxLocals]; done) | rfl
set_option maxRecDepth 65536 in
set_option maxHeartbeats 40000000 in
theorem rm0b (l : Launch) (Z : State) (a0 : Array Value) (hw : ∀ d ∈ tables_1, d.before a0 Z = true) (ws : List Jvm.Cond) (ux : Int64) (uy : Int64) (ue : Int64) (uf : Int64) (h0 : Heap) (n0 : Nat) (Z0 : n0 ≤ h0.size) (hxy : ¬ (ux = uy)) :
    MetFree l x (head1 (Jvm.Cond.code x code maxLocals ret :: ws) room_1) (fun a U => a = #[(.long ux), (.long uy), (.long ue), (.long uf)] ∧ Z.Warmed39 U.vm ∧ U.heap = h0) (fun _ _ _ _ _ => True) (fun _ U o U' => ∃ v L, o = .returned v ∧ Q0a Z ux uy ue uf h0 n0 v U'.heap L ∧ FrameEnd U o U' L 2 4) := by
  refine MetFree.of_bodySF (plainFor_of_name pn_2) hisR ?_
  intro p e s m args below meth c s₁ Bd hml0 hP hK
  obtain ⟨rfl, hZ, hh⟩ := hP
  have hx := Bd.exec
  have hby := Bd.bytes
  have hml : c.maxLocals = 15 := hml0
  have hown : s.vm.findClass "com/example/gembok/gembok/MomentIsAfterPinLaw" = some m.cls := findClass_of_methodNamed Bd.named
  have hnm := (name_of_methodNamed Bd.named Bd.method).1
  have X0 : Stand p l e room_1 s m #[(.long ux), (.long uy), (.long ue), (.long uf)] below meth c s₁ [] 0 0 := Stand.of_body Bd
  have e0 : s₁.heap = h0 := by rw [← hh, Bd.state]; rfl
  have N0 := Fr.nil n0
  have pre0 : ∀ t, Steps p.tables e below (s₁.setTop (mkF m 0 #[.val (.long ux), .second, .val (.long uy), .second, .val (.long ue), .second, .val (.long uf), .second, .unset, .unset, .unset, .unset, .unset, .unset, .unset] [])) t → Steps p.tables e below (s₁.setTop (entryFrame m #[(.long ux), (.long uy), (.long ue), (.long uf)] maxLocals)) t := fun t k => castTop (ef_0b m ux uy ue uf) k
  obtain ⟨T1, h1, X1, e1, E1, E_oa, D1, -, st1⟩ := newO X0 hx hZ hown (hw _ (List.mem_of_getElem? (i := 0) rfl)) (hw _ (List.mem_of_getElem? (i := 1) rfl)) (hw _ (List.mem_of_getElem? (i := 2) rfl)) e0 (g := (mkF m 0 #[.val (.long ux), .second, .val (.long uy), .second, .val (.long ue), .second, .val (.long uf), .second, .unset, .unset, .unset, .unset, .unset, .unset, .unset] [])) rfl (hb hby at_0) (by decide) (by decide)
  obtain ⟨oa, sz_oa⟩ : ∃ z, z = h0.size := ⟨_, rfl⟩
  rw [← sz_oa] at E_oa D1 st1
  have F_monotonicNanos_oa : Fld Z h1 oa "com/example/gembok/gembok/Moment" "monotonicNanos" "J" (.long (0 : Int64)) := D1 (Or.inr (hw _ (List.mem_of_getElem? (i := 15) rfl))) (ty := .long) (by decide)
  have F_epochMs_oa : Fld Z h1 oa "com/example/gembok/gembok/Moment" "epochMs" "J" (.long (0 : Int64)) := D1 (Or.inr (hw _ (List.mem_of_getElem? (i := 17) rfl))) (ty := .long) (by decide)
  have g_oa : n0 ≤ oa := Nat.le_trans Z0 (Nat.le_of_eq sz_oa.symm)
  have Zp2 : n0 ≤ h1.size := Nat.le_trans Z0 E1.1
  obtain ⟨_, _, ⟨T3, L3, k3, n3⟩, -, X3, ⟨Lc3, hQ3, l3, y3, z3⟩, st3⟩ := X1.specialBack hx (y := (⟨"com/example/gembok/gembok/Moment", "<init>", "(JJ)V"⟩ : MethodName)) rfl hown (mvT hZ (hw _ (List.mem_of_getElem? (i := 3) rfl))) (mvT hZ (hw _ (List.mem_of_getElem? (i := 4) rfl))) (mvT hZ (hw _ (List.mem_of_getElem? (i := 5) rfl))) (by decide) (backOf (W := 1) (rm2 l Z a0 hw [] oa ux ue h1 n0 F_monotonicNanos_oa F_epochMs_oa E_oa g_oa) hZ (hw _ (List.mem_of_getElem? (i := 5) rfl)) (hw _ (List.mem_of_getElem? (i := 2) rfl)) (by decide) (by decide)) (g := (mkF m 7 #[.val (.long ux), .second, .val (.long uy), .second, .val (.long ue), .second, .val (.long uf), .second, .unset, .unset, .unset, .unset, .unset, .unset, .unset] [(.long ue), (.long ux), (.ref oa), (.ref oa)])) rfl (by rw [hml]; rfl) (Steps.refl _) (a := oa) (argsL := [(.long ux), (.long ue)]) (rest := [(.ref oa)]) (lenOf pd_1 rfl) rfl (by show 2 * 0 + _ ≤ _; exact Nat.le_of_eq rfl) (hb hby at_7) (fun _ _ => ⟨rfl, e1, (by decide : 1 + 0 ≤ _), (by decide : 2 + 0 ≤ _)⟩)
  dsimp only [Pt.U, Pt.locs, Pt.cells, Pt.slots] at X3 l3 y3 z3 st3 hQ3
  subst l3 y3 z3
  obtain ⟨rfl, N3q, K3, Ea3, Fa3⟩ := hQ3
  have N3 := Fr.app N0 N3q
  have Zp4 : n0 ≤ T3.heap.size := Nat.le_trans Zp2 K3.1
  obtain ⟨T5, h5, X5, e5, E5, E_ob, D5, -, st5⟩ := newO X3 hx hZ hown (hw _ (List.mem_of_getElem? (i := 0) rfl)) (hw _ (List.mem_of_getElem? (i := 1) rfl)) (hw _ (List.mem_of_getElem? (i := 2) rfl)) rfl (g := (mkF m 12 #[.val (.long ux), .second, .val (.long uy), .second, .val (.long ue), .second, .val (.long uf), .second, .val (.ref oa), .unset, .unset, .unset, .unset, .unset, .unset] [])) rfl (hb hby at_12) (by decide) (by decide)
  obtain ⟨ob, sz_ob⟩ : ∃ z, z = T3.heap.size := ⟨_, rfl⟩
  rw [← sz_ob] at E_ob D5 st5
  have F_monotonicNanos_ob : Fld Z h5 ob "com/example/gembok/gembok/Moment" "monotonicNanos" "J" (.long (0 : Int64)) := D5 (Or.inr (hw _ (List.mem_of_getElem? (i := 15) rfl))) (ty := .long) (by decide)
  have F_epochMs_ob : Fld Z h5 ob "com/example/gembok/gembok/Moment" "epochMs" "J" (.long (0 : Int64)) := D5 (Or.inr (hw _ (List.mem_of_getElem? (i := 17) rfl))) (ty := .long) (by decide)
  have g_ob : n0 ≤ ob := Nat.le_trans Zp4 (Nat.le_of_eq sz_ob.symm)
  have Zp6 : n0 ≤ h5.size := Nat.le_trans Zp4 E5.1
  have Ea2 := Ea3.ext E5
  have Fa2 := Fa3.ext E5
  have nab : oa ≠ ob := Nat.ne_of_lt (Nat.lt_of_lt_of_le Ea3.lt (Nat.le_of_eq sz_ob.symm))
  obtain ⟨_, _, ⟨T7, L7, k7, n7⟩, -, X7, ⟨Lc7, hQ7, l7, y7, z7⟩, st7⟩ := X5.specialBack hx (y := (⟨"com/example/gembok/gembok/Moment", "<init>", "(JJ)V"⟩ : MethodName)) rfl hown (mvT hZ (hw _ (List.mem_of_getElem? (i := 3) rfl))) (mvT hZ (hw _ (List.mem_of_getElem? (i := 4) rfl))) (mvT hZ (hw _ (List.mem_of_getElem? (i := 5) rfl))) (by decide) (backOf (W := 1) (rm2 l Z a0 hw [] ob uy uf h5 n0 F_monotonicNanos_ob F_epochMs_ob E_ob g_ob) hZ (hw _ (List.mem_of_getElem? (i := 5) rfl)) (hw _ (List.mem_of_getElem? (i := 2) rfl)) (by decide) (by decide)) (g := (mkF m 19 #[.val (.long ux), .second, .val (.long uy), .second, .val (.long ue), .second, .val (.long uf), .second, .val (.ref oa), .unset, .unset, .unset, .unset, .unset, .unset] [(.long uf), (.long uy), (.ref ob), (.ref ob)])) rfl (by rw [hml]; rfl) (Steps.refl _) (a := ob) (argsL := [(.long uy), (.long uf)]) (rest := [(.ref ob)]) (lenOf pd_1 rfl) rfl (by show 2 * 0 + _ ≤ _; exact Nat.le_of_eq rfl) (hb hby at_19) (fun _ _ => ⟨rfl, e5, (by decide : 2 + 0 ≤ _), (by decide : 4 + 0 ≤ _)⟩)
  dsimp only [Pt.U, Pt.locs, Pt.cells, Pt.slots] at X7 l7 y7 z7 st7 hQ7
  subst l7 y7 z7
  obtain ⟨rfl, N7q, K7, Eb7, Fb7⟩ := hQ7
  have N7 := Fr.app N3 N7q
  have Zp8 : n0 ≤ T7.heap.size := Nat.le_trans Zp6 K7.1
  have Ea3 := Ea2.keep K7
  have Fa3 := Fa2.keep K7 (ninS nab nin0)
  obtain ⟨cq9, kq9, q9a, q9b, q9c⟩ := isOf hZ rfl Ea3
  obtain ⟨_, _, ⟨T9, L9, k9, n9⟩, -, X9, ⟨Lc9, hQ9, l9, y9, z9⟩, st9⟩ := X7.virtualBack hx (y := (⟨"com/example/gembok/gembok/Moment", "isAfter", "(Lcom/example/gembok/gembok/Moment;)Z"⟩ : MethodName)) (z := (⟨"com/example/gembok/gembok/Moment", "isAfter", "(Lcom/example/gembok/gembok/Moment;)Z"⟩ : MethodName)) hown (mvT hZ (hw _ (List.mem_of_getElem? (i := 18) rfl))) (mvT hZ (hw _ (List.mem_of_getElem? (i := 19) rfl))) (notFace_of_selects (args := #[]) (mvT hZ (hw _ (List.mem_of_getElem? (i := 21) rfl)))) (mvT hZ (hw _ (List.mem_of_getElem? (i := 21) rfl))) (mvT hZ (hw _ (List.mem_of_getElem? (i := 20) rfl))) (by decide) (backOf (W := 0) (rm3 l Z a0 hw [] oa ob ux uy T7.heap n0 Fa3 Fb7) hZ (hw _ (List.mem_of_getElem? (i := 22) rfl)) (hw _ (List.mem_of_getElem? (i := 2) rfl)) (by decide) (by decide)) q9a q9c (g := (mkF m 28 #[.val (.long ux), .second, .val (.long uy), .second, .val (.long ue), .second, .val (.long uf), .second, .val (.ref oa), .val (.ref ob), .unset, .unset, .unset, .unset, .unset] [(.ref ob), (.ref oa)])) rfl (by rw [hml]; rfl) (Steps.refl _) (argsL := [(.ref ob)]) (rest := []) (lenOf pd_2 rfl) rfl (by show 2 * 0 + _ ≤ _; exact Nat.le_of_eq rfl) (hb hby at_28) (fun _ _ => ⟨rfl, rfl, (by decide : 2 + 0 ≤ _), (by decide : 4 + 0 ≤ _)⟩)
  dsimp only [Pt.U, Pt.locs, Pt.cells, Pt.slots] at X9 l9 y9 z9 st9 hQ9
  subst l9 y9 z9
  obtain ⟨rfl, N9q, e9q⟩ := hQ9
  have N9 := Fr.app N7 N9q
  obtain ⟨cq10, kq10, q10a, q10b, q10c⟩ := isOf hZ e9q Eb7
  obtain ⟨_, _, ⟨T10, L10, k10, n10⟩, -, X10, ⟨Lc10, hQ10, l10, y10, z10⟩, st10⟩ := X9.virtualBack hx (y := (⟨"com/example/gembok/gembok/Moment", "isAfter", "(Lcom/example/gembok/gembok/Moment;)Z"⟩ : MethodName)) (z := (⟨"com/example/gembok/gembok/Moment", "isAfter", "(Lcom/example/gembok/gembok/Moment;)Z"⟩ : MethodName)) hown (mvT hZ (hw _ (List.mem_of_getElem? (i := 18) rfl))) (mvT hZ (hw _ (List.mem_of_getElem? (i := 19) rfl))) (notFace_of_selects (args := #[]) (mvT hZ (hw _ (List.mem_of_getElem? (i := 21) rfl)))) (mvT hZ (hw _ (List.mem_of_getElem? (i := 21) rfl))) (mvT hZ (hw _ (List.mem_of_getElem? (i := 20) rfl))) (by decide) (backOf (W := 0) (rm3 l Z a0 hw [] ob oa uy ux T7.heap n0 Fb7 Fa3) hZ (hw _ (List.mem_of_getElem? (i := 22) rfl)) (hw _ (List.mem_of_getElem? (i := 2) rfl)) (by decide) (by decide)) q10a q10c (g := (mkF m 37 #[.val (.long ux), .second, .val (.long uy), .second, .val (.long ue), .second, .val (.long uf), .second, .val (.ref oa), .val (.ref ob), .val (.int (f3_8 ux uy)), .unset, .unset, .unset, .unset] [(.ref oa), (.ref ob)])) rfl (by rw [hml]; rfl) (Steps.refl _) (argsL := [(.ref oa)]) (rest := []) (lenOf pd_2 rfl) rfl (by show 2 * 0 + _ ≤ _; exact Nat.le_of_eq rfl) (hb hby at_37) (fun _ _ => ⟨rfl, e9q, (by decide : 2 + 0 ≤ _), (by decide : 4 + 0 ≤ _)⟩)
  dsimp only [Pt.U, Pt.locs, Pt.cells, Pt.slots] at X10 l10 y10 z10 st10 hQ10
  subst l10 y10 z10
  obtain ⟨rfl, N10q, e10q⟩ := hQ10
  have N10 := Fr.app N9 N10q
  obtain ⟨cq11, kq11, q11a, q11b, q11c⟩ := isOf hZ e10q Ea3
  obtain ⟨_, _, ⟨T11, L11, k11, n11⟩, -, X11, ⟨Lc11, hQ11, l11, y11, z11⟩, st11⟩ := X10.virtualBack hx (y := (⟨"com/example/gembok/gembok/Moment", "isAfter", "(Lcom/example/gembok/gembok/Moment;)Z"⟩ : MethodName)) (z := (⟨"com/example/gembok/gembok/Moment", "isAfter", "(Lcom/example/gembok/gembok/Moment;)Z"⟩ : MethodName)) hown (mvT hZ (hw _ (List.mem_of_getElem? (i := 18) rfl))) (mvT hZ (hw _ (List.mem_of_getElem? (i := 19) rfl))) (notFace_of_selects (args := #[]) (mvT hZ (hw _ (List.mem_of_getElem? (i := 21) rfl)))) (mvT hZ (hw _ (List.mem_of_getElem? (i := 21) rfl))) (mvT hZ (hw _ (List.mem_of_getElem? (i := 20) rfl))) (by decide) (backOf (W := 0) (rm3 l Z a0 hw [] oa oa ux ux T7.heap n0 Fa3 Fa3) hZ (hw _ (List.mem_of_getElem? (i := 22) rfl)) (hw _ (List.mem_of_getElem? (i := 2) rfl)) (by decide) (by decide)) q11a q11c (g := (mkF m 46 #[.val (.long ux), .second, .val (.long uy), .second, .val (.long ue), .second, .val (.long uf), .second, .val (.ref oa), .val (.ref ob), .val (.int (f3_8 ux uy)), .val (.int (f3_8 uy ux)), .unset, .unset, .unset] [(.ref oa), (.ref oa)])) rfl (by rw [hml]; rfl) (Steps.refl _) (argsL := [(.ref oa)]) (rest := []) (lenOf pd_2 rfl) rfl (by show 2 * 0 + _ ≤ _; exact Nat.le_of_eq rfl) (hb hby at_46) (fun _ _ => ⟨rfl, e10q, (by decide : 2 + 0 ≤ _), (by decide : 4 + 0 ≤ _)⟩)
  dsimp only [Pt.U, Pt.locs, Pt.cells, Pt.slots] at X11 l11 y11 z11 st11 hQ11
  subst l11 y11 z11
  obtain ⟨rfl, N11q, e11q⟩ := hQ11
  have N11 := Fr.app N10 N11q
  obtain ⟨_, _, ⟨T12, L12, k12, n12⟩, -, X12, ⟨Lc12, hQ12, l12, y12, z12⟩, st12⟩ := Jvm.LawKit.callS X11 hx (y := (⟨"java/lang/Math", "max", "(JJ)J"⟩ : MethodName)) hown (mvT hZ (hw _ (List.mem_of_getElem? (i := 23) rfl))) (mvT hZ (hw _ (List.mem_of_getElem? (i := 24) rfl))) (mvT hZ (hw _ (List.mem_of_getElem? (i := 25) rfl))) (mvT hZ (hw _ (List.mem_of_getElem? (i := 26) rfl))) (by decide) (backOf (W := 0) (rm4 l Z a0 hw [] ux uy T7.heap n0) hZ (hw _ (List.mem_of_getElem? (i := 26) rfl)) (hw _ (List.mem_of_getElem? (i := 25) rfl)) (by decide) (by decide)) (g := (mkF m 59 #[.val (.long ux), .second, .val (.long uy), .second, .val (.long ue), .second, .val (.long uf), .second, .val (.ref oa), .val (.ref ob), .val (.int (f3_8 ux uy)), .val (.int (f3_8 uy ux)), .val (.int (f3_8 ux ux)), .unset, .unset] [(.long uy), (.long ux)])) rfl (by rw [hml]; rfl) (argsL := [(.long ux), (.long uy)]) (rest := []) (lenOf pd_3 rfl) rfl (by show 2 * 0 + _ ≤ _; exact Nat.le_of_eq rfl) (hb hby at_59) (fun _ _ => ⟨rfl, e11q, (by decide : 2 + 0 ≤ _), (by decide : 4 + 0 ≤ _)⟩)
  dsimp only [Pt.U, Pt.locs, Pt.cells, Pt.slots] at X12 l12 y12 z12 st12 hQ12
  subst l12 y12 z12
  obtain ⟨rfl, N12q, e12q⟩ := hQ12
  have N12 := Fr.app N11 N12q
  have sg62 : ∀ t, Steps p.tables e below (T12.setTop (mkF m 72 #[.val (.long ux), .second, .val (.long uy), .second, .val (.long ue), .second, .val (.long uf), .second, .val (.ref oa), .val (.ref ob), .val (.int (f3_8 ux uy)), .val (.int (f3_8 uy ux)), .val (.int (f3_8 ux ux)), .unset, .unset] [(.int (g_ab ux uy))])) t → Steps p.tables e below (T12.setTop (mkF m 62 #[.val (.long ux), .second, .val (.long uy), .second, .val (.long ue), .second, .val (.long uf), .second, .val (.ref oa), .val (.ref ob), .val (.int (f3_8 ux uy)), .val (.int (f3_8 uy ux)), .val (.int (f3_8 ux ux)), .unset, .unset] [(.long (f4_0 ux uy))])) t := by
    intro t kt
    show Steps p.tables e below (T12.setTop (mkF m 62 #[.val (.long ux), .second, .val (.long uy), .second, .val (.long ue), .second, .val (.long uf), .second, .val (.ref oa), .val (.ref ob), .val (.int (f3_8 ux uy)), .val (.int (f3_8 uy ux)), .val (.int (f3_8 ux ux)), .unset, .unset] [(.long (f4_0 ux uy))])) _
    refine XS.lloadN X12.here hx rfl (hb hby at_62) rfl ?_
    show Steps p.tables e below (T12.setTop (mkF m 63 #[.val (.long ux), .second, .val (.long uy), .second, .val (.long ue), .second, .val (.long uf), .second, .val (.ref oa), .val (.ref ob), .val (.int (f3_8 ux uy)), .val (.int (f3_8 uy ux)), .val (.int (f3_8 ux ux)), .unset, .unset] [(.long ux), (.long (f4_0 ux uy))])) _
    refine XS.lcmp X12.here hx rfl (hb hby at_63) rfl ?_
    show Steps p.tables e below (T12.setTop (mkF m 64 #[.val (.long ux), .second, .val (.long uy), .second, .val (.long ue), .second, .val (.long uf), .second, .val (.ref oa), .val (.ref ob), .val (.int (f3_8 ux uy)), .val (.int (f3_8 uy ux)), .val (.int (f3_8 ux ux)), .unset, .unset] [(.int (lcmpW (f4_0 ux uy) ux))])) _
    by_cases hc64 : (f4_0 ux uy) = ux
    · refine XS.ifNo X12.here hx rfl (hb hby at_64) rfl ((if0 _ _).trans (teq ((lw_eq (f4_0 ux uy) ux).mpr hc64)).2) ?_
      show Steps p.tables e below (T12.setTop (mkF m 67 #[.val (.long ux), .second, .val (.long uy), .second, .val (.long ue), .second, .val (.long uf), .second, .val (.ref oa), .val (.ref ob), .val (.int (f3_8 ux uy)), .val (.int (f3_8 uy ux)), .val (.int (f3_8 ux ux)), .unset, .unset] [])) _
      refine XS.iconst X12.here hx rfl (hb hby at_67) ?_
      show Steps p.tables e below (T12.setTop (mkF m 68 #[.val (.long ux), .second, .val (.long uy), .second, .val (.long ue), .second, .val (.long uf), .second, .val (.ref oa), .val (.ref ob), .val (.int (f3_8 ux uy)), .val (.int (f3_8 uy ux)), .val (.int (f3_8 ux ux)), .unset, .unset] [(.int (1 : Int32))])) _
      refine XS.goto X12.here hx rfl (pc0 := 68) (pc' := 72) rfl (hb hby at_68) (by decide) (by decide) ?_
      have hv : g_ab ux uy = (1 : Int32) := by unfold g_ab; rw [if_pos hc64]
      rw [hv] at kt
      exact kt
    · refine XS.ifYes X12.here hx rfl (pc0 := 64) (pc' := 71) rfl (hb hby at_64) rfl ((if0 _ _).trans (feq (fun q => hc64 ((lw_eq (f4_0 ux uy) ux).mp q))).2) (by decide) (by decide) ?_
      show Steps p.tables e below (T12.setTop (mkF m 71 #[.val (.long ux), .second, .val (.long uy), .second, .val (.long ue), .second, .val (.long uf), .second, .val (.ref oa), .val (.ref ob), .val (.int (f3_8 ux uy)), .val (.int (f3_8 uy ux)), .val (.int (f3_8 ux ux)), .unset, .unset] [])) _
      refine XS.iconst X12.here hx rfl (hb hby at_71) ?_
      have hv : g_ab ux uy = (0 : Int32) := by unfold g_ab; rw [if_neg hc64]
      rw [hv] at kt
      exact kt
  obtain ⟨_, _, ⟨T13, L13, k13, n13⟩, -, X13, ⟨Lc13, hQ13, l13, y13, z13⟩, st13⟩ := Jvm.LawKit.callS X12 hx (y := (⟨"java/lang/Math", "max", "(JJ)J"⟩ : MethodName)) hown (mvT hZ (hw _ (List.mem_of_getElem? (i := 23) rfl))) (mvT hZ (hw _ (List.mem_of_getElem? (i := 24) rfl))) (mvT hZ (hw _ (List.mem_of_getElem? (i := 25) rfl))) (mvT hZ (hw _ (List.mem_of_getElem? (i := 26) rfl))) (by decide) (backOf (W := 0) (rm4 l Z a0 hw [] ux uy T7.heap n0) hZ (hw _ (List.mem_of_getElem? (i := 26) rfl)) (hw _ (List.mem_of_getElem? (i := 25) rfl)) (by decide) (by decide)) (g := (mkF m 82 #[.val (.long ux), .second, .val (.long uy), .second, .val (.long ue), .second, .val (.long uf), .second, .val (.ref oa), .val (.ref ob), .val (.int (f3_8 ux uy)), .val (.int (f3_8 uy ux)), .val (.int (f3_8 ux ux)), .val (.int (g_ab ux uy)), .unset] [(.long uy), (.long ux)])) rfl (by rw [hml]; rfl) (argsL := [(.long ux), (.long uy)]) (rest := []) (lenOf pd_3 rfl) rfl (by show 2 * 0 + _ ≤ _; exact Nat.le_of_eq rfl) (hb hby at_82) (fun _ _ => ⟨rfl, e12q, (by decide : 2 + 0 ≤ _), (by decide : 4 + 0 ≤ _)⟩)
  dsimp only [Pt.U, Pt.locs, Pt.cells, Pt.slots] at X13 l13 y13 z13 st13 hQ13
  subst l13 y13 z13
  obtain ⟨rfl, N13q, e13q⟩ := hQ13
  have N13 := Fr.app N12 N13q
  have sg85 : ∀ t, Steps p.tables e below (T13.setTop (mkF m 95 #[.val (.long ux), .second, .val (.long uy), .second, .val (.long ue), .second, .val (.long uf), .second, .val (.ref oa), .val (.ref ob), .val (.int (f3_8 ux uy)), .val (.int (f3_8 uy ux)), .val (.int (f3_8 ux ux)), .val (.int (g_ab ux uy)), .unset] [(.int (g_ba ux uy))])) t → Steps p.tables e below (T13.setTop (mkF m 85 #[.val (.long ux), .second, .val (.long uy), .second, .val (.long ue), .second, .val (.long uf), .second, .val (.ref oa), .val (.ref ob), .val (.int (f3_8 ux uy)), .val (.int (f3_8 uy ux)), .val (.int (f3_8 ux ux)), .val (.int (g_ab ux uy)), .unset] [(.long (f4_0 ux uy))])) t := by
    intro t kt
    show Steps p.tables e below (T13.setTop (mkF m 85 #[.val (.long ux), .second, .val (.long uy), .second, .val (.long ue), .second, .val (.long uf), .second, .val (.ref oa), .val (.ref ob), .val (.int (f3_8 ux uy)), .val (.int (f3_8 uy ux)), .val (.int (f3_8 ux ux)), .val (.int (g_ab ux uy)), .unset] [(.long (f4_0 ux uy))])) _
    refine XS.lloadN X13.here hx rfl (hb hby at_85) rfl ?_
    show Steps p.tables e below (T13.setTop (mkF m 86 #[.val (.long ux), .second, .val (.long uy), .second, .val (.long ue), .second, .val (.long uf), .second, .val (.ref oa), .val (.ref ob), .val (.int (f3_8 ux uy)), .val (.int (f3_8 uy ux)), .val (.int (f3_8 ux ux)), .val (.int (g_ab ux uy)), .unset] [(.long uy), (.long (f4_0 ux uy))])) _
    refine XS.lcmp X13.here hx rfl (hb hby at_86) rfl ?_
    show Steps p.tables e below (T13.setTop (mkF m 87 #[.val (.long ux), .second, .val (.long uy), .second, .val (.long ue), .second, .val (.long uf), .second, .val (.ref oa), .val (.ref ob), .val (.int (f3_8 ux uy)), .val (.int (f3_8 uy ux)), .val (.int (f3_8 ux ux)), .val (.int (g_ab ux uy)), .unset] [(.int (lcmpW (f4_0 ux uy) uy))])) _
    by_cases hc87 : (f4_0 ux uy) = uy
    · refine XS.ifNo X13.here hx rfl (hb hby at_87) rfl ((if0 _ _).trans (teq ((lw_eq (f4_0 ux uy) uy).mpr hc87)).2) ?_
      show Steps p.tables e below (T13.setTop (mkF m 90 #[.val (.long ux), .second, .val (.long uy), .second, .val (.long ue), .second, .val (.long uf), .second, .val (.ref oa), .val (.ref ob), .val (.int (f3_8 ux uy)), .val (.int (f3_8 uy ux)), .val (.int (f3_8 ux ux)), .val (.int (g_ab ux uy)), .unset] [])) _
      refine XS.iconst X13.here hx rfl (hb hby at_90) ?_
      show Steps p.tables e below (T13.setTop (mkF m 91 #[.val (.long ux), .second, .val (.long uy), .second, .val (.long ue), .second, .val (.long uf), .second, .val (.ref oa), .val (.ref ob), .val (.int (f3_8 ux uy)), .val (.int (f3_8 uy ux)), .val (.int (f3_8 ux ux)), .val (.int (g_ab ux uy)), .unset] [(.int (1 : Int32))])) _
      refine XS.goto X13.here hx rfl (pc0 := 91) (pc' := 95) rfl (hb hby at_91) (by decide) (by decide) ?_
      have hv : g_ba ux uy = (1 : Int32) := by unfold g_ba; rw [if_pos hc87]
      rw [hv] at kt
      exact kt
    · refine XS.ifYes X13.here hx rfl (pc0 := 87) (pc' := 94) rfl (hb hby at_87) rfl ((if0 _ _).trans (feq (fun q => hc87 ((lw_eq (f4_0 ux uy) uy).mp q))).2) (by decide) (by decide) ?_
      show Steps p.tables e below (T13.setTop (mkF m 94 #[.val (.long ux), .second, .val (.long uy), .second, .val (.long ue), .second, .val (.long uf), .second, .val (.ref oa), .val (.ref ob), .val (.int (f3_8 ux uy)), .val (.int (f3_8 uy ux)), .val (.int (f3_8 ux ux)), .val (.int (g_ab ux uy)), .unset] [])) _
      refine XS.iconst X13.here hx rfl (hb hby at_94) ?_
      have hv : g_ba ux uy = (0 : Int32) := by unfold g_ba; rw [if_neg hc87]
      rw [hv] at kt
      exact kt
  obtain ⟨fs, hr, hrun, hended, hW, hsame⟩ := X13.leave (v := some (.int (1 : Int32))) (fun h => by rw [Bd.returns] at h; cases h)
  refine ⟨_, _, pre0 _ ?_, hrun, hended, _, _, rfl, ?_, ⟨_, rfl⟩, hW, hsame.mono (by decide) (by decide)⟩
  · show Steps p.tables e below (s₁.setTop (mkF m 0 #[.val (.long ux), .second, .val (.long uy), .second, .val (.long ue), .second, .val (.long uf), .second, .unset, .unset, .unset, .unset, .unset, .unset, .unset] [])) _
    refine st1 _ ?_
    show Steps p.tables e below (T1.setTop (mkF m 3 #[.val (.long ux), .second, .val (.long uy), .second, .val (.long ue), .second, .val (.long uf), .second, .unset, .unset, .unset, .unset, .unset, .unset, .unset] [(.ref oa)])) _
    refine XS.dup X1.here hx rfl (hb hby at_3) rfl rfl ?_
    show Steps p.tables e below (T1.setTop (mkF m 4 #[.val (.long ux), .second, .val (.long uy), .second, .val (.long ue), .second, .val (.long uf), .second, .unset, .unset, .unset, .unset, .unset, .unset, .unset] [(.ref oa), (.ref oa)])) _
    refine XS.lloadN X1.here hx rfl (hb hby at_4) rfl ?_
    show Steps p.tables e below (T1.setTop (mkF m 5 #[.val (.long ux), .second, .val (.long uy), .second, .val (.long ue), .second, .val (.long uf), .second, .unset, .unset, .unset, .unset, .unset, .unset, .unset] [(.long ux), (.ref oa), (.ref oa)])) _
    refine XS.lload X1.here hx rfl (hb hby at_5) rfl ?_
    show Steps p.tables e below (T1.setTop (mkF m 7 #[.val (.long ux), .second, .val (.long uy), .second, .val (.long ue), .second, .val (.long uf), .second, .unset, .unset, .unset, .unset, .unset, .unset, .unset] [(.long ue), (.long ux), (.ref oa), (.ref oa)])) _
    refine st3.trans ?_
    show Steps p.tables e below (T3.setTop (mkF m 10 #[.val (.long ux), .second, .val (.long uy), .second, .val (.long ue), .second, .val (.long uf), .second, .unset, .unset, .unset, .unset, .unset, .unset, .unset] [(.ref oa)])) _
    refine XS.astore X3.here hx rfl (hb hby at_10) rfl rfl (l' := #[.val (.long ux), .second, .val (.long uy), .second, .val (.long ue), .second, .val (.long uf), .second, .val (.ref oa), .unset, .unset, .unset, .unset, .unset, .unset]) rfl ?_
    show Steps p.tables e below (T3.setTop (mkF m 12 #[.val (.long ux), .second, .val (.long uy), .second, .val (.long ue), .second, .val (.long uf), .second, .val (.ref oa), .unset, .unset, .unset, .unset, .unset, .unset] [])) _
    refine st5 _ ?_
    show Steps p.tables e below (T5.setTop (mkF m 15 #[.val (.long ux), .second, .val (.long uy), .second, .val (.long ue), .second, .val (.long uf), .second, .val (.ref oa), .unset, .unset, .unset, .unset, .unset, .unset] [(.ref ob)])) _
    refine XS.dup X5.here hx rfl (hb hby at_15) rfl rfl ?_
    show Steps p.tables e below (T5.setTop (mkF m 16 #[.val (.long ux), .second, .val (.long uy), .second, .val (.long ue), .second, .val (.long uf), .second, .val (.ref oa), .unset, .unset, .unset, .unset, .unset, .unset] [(.ref ob), (.ref ob)])) _
    refine XS.lloadN X5.here hx rfl (hb hby at_16) rfl ?_
    show Steps p.tables e below (T5.setTop (mkF m 17 #[.val (.long ux), .second, .val (.long uy), .second, .val (.long ue), .second, .val (.long uf), .second, .val (.ref oa), .unset, .unset, .unset, .unset, .unset, .unset] [(.long uy), (.ref ob), (.ref ob)])) _
    refine XS.lload X5.here hx rfl (hb hby at_17) rfl ?_
    show Steps p.tables e below (T5.setTop (mkF m 19 #[.val (.long ux), .second, .val (.long uy), .second, .val (.long ue), .second, .val (.long uf), .second, .val (.ref oa), .unset, .unset, .unset, .unset, .unset, .unset] [(.long uf), (.long uy), (.ref ob), (.ref ob)])) _
    refine st7.trans ?_
    show Steps p.tables e below (T7.setTop (mkF m 22 #[.val (.long ux), .second, .val (.long uy), .second, .val (.long ue), .second, .val (.long uf), .second, .val (.ref oa), .unset, .unset, .unset, .unset, .unset, .unset] [(.ref ob)])) _
    refine XS.astore X7.here hx rfl (hb hby at_22) rfl rfl (l' := #[.val (.long ux), .second, .val (.long uy), .second, .val (.long ue), .second, .val (.long uf), .second, .val (.ref oa), .val (.ref ob), .unset, .unset, .unset, .unset, .unset]) rfl ?_
    show Steps p.tables e below (T7.setTop (mkF m 24 #[.val (.long ux), .second, .val (.long uy), .second, .val (.long ue), .second, .val (.long uf), .second, .val (.ref oa), .val (.ref ob), .unset, .unset, .unset, .unset, .unset] [])) _
    refine XS.aload X7.here hx rfl (hb hby at_24) rfl rfl ?_
    show Steps p.tables e below (T7.setTop (mkF m 26 #[.val (.long ux), .second, .val (.long uy), .second, .val (.long ue), .second, .val (.long uf), .second, .val (.ref oa), .val (.ref ob), .unset, .unset, .unset, .unset, .unset] [(.ref oa)])) _
    refine XS.aload X7.here hx rfl (hb hby at_26) rfl rfl ?_
    show Steps p.tables e below (T7.setTop (mkF m 28 #[.val (.long ux), .second, .val (.long uy), .second, .val (.long ue), .second, .val (.long uf), .second, .val (.ref oa), .val (.ref ob), .unset, .unset, .unset, .unset, .unset] [(.ref ob), (.ref oa)])) _
    refine st9.trans ?_
    show Steps p.tables e below (T9.setTop (mkF m 31 #[.val (.long ux), .second, .val (.long uy), .second, .val (.long ue), .second, .val (.long uf), .second, .val (.ref oa), .val (.ref ob), .unset, .unset, .unset, .unset, .unset] [(.int (f3_8 ux uy))])) _
    refine XS.istore X9.here hx rfl (hb hby at_31) rfl (l' := #[.val (.long ux), .second, .val (.long uy), .second, .val (.long ue), .second, .val (.long uf), .second, .val (.ref oa), .val (.ref ob), .val (.int (f3_8 ux uy)), .unset, .unset, .unset, .unset]) rfl ?_
    show Steps p.tables e below (T9.setTop (mkF m 33 #[.val (.long ux), .second, .val (.long uy), .second, .val (.long ue), .second, .val (.long uf), .second, .val (.ref oa), .val (.ref ob), .val (.int (f3_8 ux uy)), .unset, .unset, .unset, .unset] [])) _
    refine XS.aload X9.here hx rfl (hb hby at_33) rfl rfl ?_
    show Steps p.tables e below (T9.setTop (mkF m 35 #[.val (.long ux), .second, .val (.long uy), .second, .val (.long ue), .second, .val (.long uf), .second, .val (.ref oa), .val (.ref ob), .val (.int (f3_8 ux uy)), .unset, .unset, .unset, .unset] [(.ref ob)])) _
    refine XS.aload X9.here hx rfl (hb hby at_35) rfl rfl ?_
    show Steps p.tables e below (T9.setTop (mkF m 37 #[.val (.long ux), .second, .val (.long uy), .second, .val (.long ue), .second, .val (.long uf), .second, .val (.ref oa), .val (.ref ob), .val (.int (f3_8 ux uy)), .unset, .unset, .unset, .unset] [(.ref oa), (.ref ob)])) _
    refine st10.trans ?_
    show Steps p.tables e below (T10.setTop (mkF m 40 #[.val (.long ux), .second, .val (.long uy), .second, .val (.long ue), .second, .val (.long uf), .second, .val (.ref oa), .val (.ref ob), .val (.int (f3_8 ux uy)), .unset, .unset, .unset, .unset] [(.int (f3_8 uy ux))])) _
    refine XS.istore X10.here hx rfl (hb hby at_40) rfl (l' := #[.val (.long ux), .second, .val (.long uy), .second, .val (.long ue), .second, .val (.long uf), .second, .val (.ref oa), .val (.ref ob), .val (.int (f3_8 ux uy)), .val (.int (f3_8 uy ux)), .unset, .unset, .unset]) rfl ?_
    show Steps p.tables e below (T10.setTop (mkF m 42 #[.val (.long ux), .second, .val (.long uy), .second, .val (.long ue), .second, .val (.long uf), .second, .val (.ref oa), .val (.ref ob), .val (.int (f3_8 ux uy)), .val (.int (f3_8 uy ux)), .unset, .unset, .unset] [])) _
    refine XS.aload X10.here hx rfl (hb hby at_42) rfl rfl ?_
    show Steps p.tables e below (T10.setTop (mkF m 44 #[.val (.long ux), .second, .val (.long uy), .second, .val (.long ue), .second, .val (.long uf), .second, .val (.ref oa), .val (.ref ob), .val (.int (f3_8 ux uy)), .val (.int (f3_8 uy ux)), .unset, .unset, .unset] [(.ref oa)])) _
    refine XS.aload X10.here hx rfl (hb hby at_44) rfl rfl ?_
    show Steps p.tables e below (T10.setTop (mkF m 46 #[.val (.long ux), .second, .val (.long uy), .second, .val (.long ue), .second, .val (.long uf), .second, .val (.ref oa), .val (.ref ob), .val (.int (f3_8 ux uy)), .val (.int (f3_8 uy ux)), .unset, .unset, .unset] [(.ref oa), (.ref oa)])) _
    refine st11.trans ?_
    show Steps p.tables e below (T11.setTop (mkF m 49 #[.val (.long ux), .second, .val (.long uy), .second, .val (.long ue), .second, .val (.long uf), .second, .val (.ref oa), .val (.ref ob), .val (.int (f3_8 ux uy)), .val (.int (f3_8 uy ux)), .unset, .unset, .unset] [(.int (f3_8 ux ux))])) _
    refine XS.istore X11.here hx rfl (hb hby at_49) rfl (l' := #[.val (.long ux), .second, .val (.long uy), .second, .val (.long ue), .second, .val (.long uf), .second, .val (.ref oa), .val (.ref ob), .val (.int (f3_8 ux uy)), .val (.int (f3_8 uy ux)), .val (.int (f3_8 ux ux)), .unset, .unset]) rfl ?_
    show Steps p.tables e below (T11.setTop (mkF m 51 #[.val (.long ux), .second, .val (.long uy), .second, .val (.long ue), .second, .val (.long uf), .second, .val (.ref oa), .val (.ref ob), .val (.int (f3_8 ux uy)), .val (.int (f3_8 uy ux)), .val (.int (f3_8 ux ux)), .unset, .unset] [])) _
    refine XS.lloadN X11.here hx rfl (hb hby at_51) rfl ?_
    show Steps p.tables e below (T11.setTop (mkF m 52 #[.val (.long ux), .second, .val (.long uy), .second, .val (.long ue), .second, .val (.long uf), .second, .val (.ref oa), .val (.ref ob), .val (.int (f3_8 ux uy)), .val (.int (f3_8 uy ux)), .val (.int (f3_8 ux ux)), .unset, .unset] [(.long ux)])) _
    refine XS.lloadN X11.here hx rfl (hb hby at_52) rfl ?_
    show Steps p.tables e below (T11.setTop (mkF m 53 #[.val (.long ux), .second, .val (.long uy), .second, .val (.long ue), .second, .val (.long uf), .second, .val (.ref oa), .val (.ref ob), .val (.int (f3_8 ux uy)), .val (.int (f3_8 uy ux)), .val (.int (f3_8 ux ux)), .unset, .unset] [(.long uy), (.long ux)])) _
    refine XS.lcmp X11.here hx rfl (hb hby at_53) rfl ?_
    show Steps p.tables e below (T11.setTop (mkF m 54 #[.val (.long ux), .second, .val (.long uy), .second, .val (.long ue), .second, .val (.long uf), .second, .val (.ref oa), .val (.ref ob), .val (.int (f3_8 ux uy)), .val (.int (f3_8 uy ux)), .val (.int (f3_8 ux ux)), .unset, .unset] [(.int (lcmpW ux uy))])) _
    refine XS.ifNo X11.here hx rfl (hb hby at_54) rfl ((if0 _ _).trans (feq (fun q => hxy ((lw_eq ux uy).mp q))).1) ?_
    show Steps p.tables e below (T11.setTop (mkF m 57 #[.val (.long ux), .second, .val (.long uy), .second, .val (.long ue), .second, .val (.long uf), .second, .val (.ref oa), .val (.ref ob), .val (.int (f3_8 ux uy)), .val (.int (f3_8 uy ux)), .val (.int (f3_8 ux ux)), .unset, .unset] [])) _
    refine XS.lloadN X11.here hx rfl (hb hby at_57) rfl ?_
    show Steps p.tables e below (T11.setTop (mkF m 58 #[.val (.long ux), .second, .val (.long uy), .second, .val (.long ue), .second, .val (.long uf), .second, .val (.ref oa), .val (.ref ob), .val (.int (f3_8 ux uy)), .val (.int (f3_8 uy ux)), .val (.int (f3_8 ux ux)), .unset, .unset] [(.long ux)])) _
    refine XS.lloadN X11.here hx rfl (hb hby at_58) rfl ?_
    show Steps p.tables e below (T11.setTop (mkF m 59 #[.val (.long ux), .second, .val (.long uy), .second, .val (.long ue), .second, .val (.long uf), .second, .val (.ref oa), .val (.ref ob), .val (.int (f3_8 ux uy)), .val (.int (f3_8 uy ux)), .val (.int (f3_8 ux ux)), .unset, .unset] [(.long uy), (.long ux)])) _
    refine st12 _ ?_
    show Steps p.tables e below (T12.setTop (mkF m 62 #[.val (.long ux), .second, .val (.long uy), .second, .val (.long ue), .second, .val (.long uf), .second, .val (.ref oa), .val (.ref ob), .val (.int (f3_8 ux uy)), .val (.int (f3_8 uy ux)), .val (.int (f3_8 ux ux)), .unset, .unset] [(.long (f4_0 ux uy))])) _
    refine sg62 _ ?_
    show Steps p.tables e below (T12.setTop (mkF m 72 #[.val (.long ux), .second, .val (.long uy), .second, .val (.long ue), .second, .val (.long uf), .second, .val (.ref oa), .val (.ref ob), .val (.int (f3_8 ux uy)), .val (.int (f3_8 uy ux)), .val (.int (f3_8 ux ux)), .unset, .unset] [(.int (g_ab ux uy))])) _
    refine XS.istore X12.here hx rfl (hb hby at_72) rfl (l' := #[.val (.long ux), .second, .val (.long uy), .second, .val (.long ue), .second, .val (.long uf), .second, .val (.ref oa), .val (.ref ob), .val (.int (f3_8 ux uy)), .val (.int (f3_8 uy ux)), .val (.int (f3_8 ux ux)), .val (.int (g_ab ux uy)), .unset]) rfl ?_
    show Steps p.tables e below (T12.setTop (mkF m 74 #[.val (.long ux), .second, .val (.long uy), .second, .val (.long ue), .second, .val (.long uf), .second, .val (.ref oa), .val (.ref ob), .val (.int (f3_8 ux uy)), .val (.int (f3_8 uy ux)), .val (.int (f3_8 ux ux)), .val (.int (g_ab ux uy)), .unset] [])) _
    refine XS.lloadN X12.here hx rfl (hb hby at_74) rfl ?_
    show Steps p.tables e below (T12.setTop (mkF m 75 #[.val (.long ux), .second, .val (.long uy), .second, .val (.long ue), .second, .val (.long uf), .second, .val (.ref oa), .val (.ref ob), .val (.int (f3_8 ux uy)), .val (.int (f3_8 uy ux)), .val (.int (f3_8 ux ux)), .val (.int (g_ab ux uy)), .unset] [(.long ux)])) _
    refine XS.lloadN X12.here hx rfl (hb hby at_75) rfl ?_
    show Steps p.tables e below (T12.setTop (mkF m 76 #[.val (.long ux), .second, .val (.long uy), .second, .val (.long ue), .second, .val (.long uf), .second, .val (.ref oa), .val (.ref ob), .val (.int (f3_8 ux uy)), .val (.int (f3_8 uy ux)), .val (.int (f3_8 ux ux)), .val (.int (g_ab ux uy)), .unset] [(.long uy), (.long ux)])) _
    refine XS.lcmp X12.here hx rfl (hb hby at_76) rfl ?_
    show Steps p.tables e below (T12.setTop (mkF m 77 #[.val (.long ux), .second, .val (.long uy), .second, .val (.long ue), .second, .val (.long uf), .second, .val (.ref oa), .val (.ref ob), .val (.int (f3_8 ux uy)), .val (.int (f3_8 uy ux)), .val (.int (f3_8 ux ux)), .val (.int (g_ab ux uy)), .unset] [(.int (lcmpW ux uy))])) _
    refine XS.ifNo X12.here hx rfl (hb hby at_77) rfl ((if0 _ _).trans (feq (fun q => hxy ((lw_eq ux uy).mp q))).1) ?_
    show Steps p.tables e below (T12.setTop (mkF m 80 #[.val (.long ux), .second, .val (.long uy), .second, .val (.long ue), .second, .val (.long uf), .second, .val (.ref oa), .val (.ref ob), .val (.int (f3_8 ux uy)), .val (.int (f3_8 uy ux)), .val (.int (f3_8 ux ux)), .val (.int (g_ab ux uy)), .unset] [])) _
    refine XS.lloadN X12.here hx rfl (hb hby at_80) rfl ?_
    show Steps p.tables e below (T12.setTop (mkF m 81 #[.val (.long ux), .second, .val (.long uy), .second, .val (.long ue), .second, .val (.long uf), .second, .val (.ref oa), .val (.ref ob), .val (.int (f3_8 ux uy)), .val (.int (f3_8 uy ux)), .val (.int (f3_8 ux ux)), .val (.int (g_ab ux uy)), .unset] [(.long ux)])) _
    refine XS.lloadN X12.here hx rfl (hb hby at_81) rfl ?_
    show Steps p.tables e below (T12.setTop (mkF m 82 #[.val (.long ux), .second, .val (.long uy), .second, .val (.long ue), .second, .val (.long uf), .second, .val (.ref oa), .val (.ref ob), .val (.int (f3_8 ux uy)), .val (.int (f3_8 uy ux)), .val (.int (f3_8 ux ux)), .val (.int (g_ab ux uy)), .unset] [(.long uy), (.long ux)])) _
    refine st13 _ ?_
    show Steps p.tables e below (T13.setTop (mkF m 85 #[.val (.long ux), .second, .val (.long uy), .second, .val (.long ue), .second, .val (.long uf), .second, .val (.ref oa), .val (.ref ob), .val (.int (f3_8 ux uy)), .val (.int (f3_8 uy ux)), .val (.int (f3_8 ux ux)), .val (.int (g_ab ux uy)), .unset] [(.long (f4_0 ux uy))])) _
    refine sg85 _ ?_
    show Steps p.tables e below (T13.setTop (mkF m 95 #[.val (.long ux), .second, .val (.long uy), .second, .val (.long ue), .second, .val (.long uf), .second, .val (.ref oa), .val (.ref ob), .val (.int (f3_8 ux uy)), .val (.int (f3_8 uy ux)), .val (.int (f3_8 ux ux)), .val (.int (g_ab ux uy)), .unset] [(.int (g_ba ux uy))])) _
    refine XS.istore X13.here hx rfl (hb hby at_95) rfl (l' := #[.val (.long ux), .second, .val (.long uy), .second, .val (.long ue), .second, .val (.long uf), .second, .val (.ref oa), .val (.ref ob), .val (.int (f3_8 ux uy)), .val (.int (f3_8 uy ux)), .val (.int (f3_8 ux ux)), .val (.int (g_ab ux uy)), .val (.int (g_ba ux uy))]) rfl ?_
    show Steps p.tables e below (T13.setTop (mkF m 97 #[.val (.long ux), .second, .val (.long uy), .second, .val (.long ue), .second, .val (.long uf), .second, .val (.ref oa), .val (.ref ob), .val (.int (f3_8 ux uy)), .val (.int (f3_8 uy ux)), .val (.int (f3_8 ux ux)), .val (.int (g_ab ux uy)), .val (.int (g_ba ux uy))] [])) _
    refine XS.iload X13.here hx rfl (hb hby at_97) rfl ?_
    show Steps p.tables e below (T13.setTop (mkF m 99 #[.val (.long ux), .second, .val (.long uy), .second, .val (.long ue), .second, .val (.long uf), .second, .val (.ref oa), .val (.ref ob), .val (.int (f3_8 ux uy)), .val (.int (f3_8 uy ux)), .val (.int (f3_8 ux ux)), .val (.int (g_ab ux uy)), .val (.int (g_ba ux uy))] [(.int (f3_8 ux uy))])) _
    refine XS.iload X13.here hx rfl (hb hby at_99) rfl ?_
    show Steps p.tables e below (T13.setTop (mkF m 101 #[.val (.long ux), .second, .val (.long uy), .second, .val (.long ue), .second, .val (.long uf), .second, .val (.ref oa), .val (.ref ob), .val (.int (f3_8 ux uy)), .val (.int (f3_8 uy ux)), .val (.int (f3_8 ux ux)), .val (.int (g_ab ux uy)), .val (.int (g_ba ux uy))] [(.int (g_ab ux uy)), (.int (f3_8 ux uy))])) _
    refine XS.icmpNo X13.here hx rfl (hb hby at_101) rfl (teq (own_ab hxy).1).2 ?_
    show Steps p.tables e below (T13.setTop (mkF m 104 #[.val (.long ux), .second, .val (.long uy), .second, .val (.long ue), .second, .val (.long uf), .second, .val (.ref oa), .val (.ref ob), .val (.int (f3_8 ux uy)), .val (.int (f3_8 uy ux)), .val (.int (f3_8 ux ux)), .val (.int (g_ab ux uy)), .val (.int (g_ba ux uy))] [])) _
    refine XS.iload X13.here hx rfl (hb hby at_104) rfl ?_
    show Steps p.tables e below (T13.setTop (mkF m 106 #[.val (.long ux), .second, .val (.long uy), .second, .val (.long ue), .second, .val (.long uf), .second, .val (.ref oa), .val (.ref ob), .val (.int (f3_8 ux uy)), .val (.int (f3_8 uy ux)), .val (.int (f3_8 ux ux)), .val (.int (g_ab ux uy)), .val (.int (g_ba ux uy))] [(.int (f3_8 uy ux))])) _
    refine XS.iload X13.here hx rfl (hb hby at_106) rfl ?_
    show Steps p.tables e below (T13.setTop (mkF m 108 #[.val (.long ux), .second, .val (.long uy), .second, .val (.long ue), .second, .val (.long uf), .second, .val (.ref oa), .val (.ref ob), .val (.int (f3_8 ux uy)), .val (.int (f3_8 uy ux)), .val (.int (f3_8 ux ux)), .val (.int (g_ab ux uy)), .val (.int (g_ba ux uy))] [(.int (g_ba ux uy)), (.int (f3_8 uy ux))])) _
    refine XS.icmpNo X13.here hx rfl (hb hby at_108) rfl (teq (own_ab hxy).2).2 ?_
    show Steps p.tables e below (T13.setTop (mkF m 111 #[.val (.long ux), .second, .val (.long uy), .second, .val (.long ue), .second, .val (.long uf), .second, .val (.ref oa), .val (.ref ob), .val (.int (f3_8 ux uy)), .val (.int (f3_8 uy ux)), .val (.int (f3_8 ux ux)), .val (.int (g_ab ux uy)), .val (.int (g_ba ux uy))] [])) _
    refine XS.iload X13.here hx rfl (hb hby at_111) rfl ?_
    show Steps p.tables e below (T13.setTop (mkF m 113 #[.val (.long ux), .second, .val (.long uy), .second, .val (.long ue), .second, .val (.long uf), .second, .val (.ref oa), .val (.ref ob), .val (.int (f3_8 ux uy)), .val (.int (f3_8 uy ux)), .val (.int (f3_8 ux ux)), .val (.int (g_ab ux uy)), .val (.int (g_ba ux uy))] [(.int (f3_8 ux ux))])) _
    refine XS.ifNo X13.here hx rfl (hb hby at_113) rfl ((if0 _ _).trans (teq (own_s3 ux)).2) ?_
    show Steps p.tables e below (T13.setTop (mkF m 116 #[.val (.long ux), .second, .val (.long uy), .second, .val (.long ue), .second, .val (.long uf), .second, .val (.ref oa), .val (.ref ob), .val (.int (f3_8 ux uy)), .val (.int (f3_8 uy ux)), .val (.int (f3_8 ux ux)), .val (.int (g_ab ux uy)), .val (.int (g_ba ux uy))] [])) _
    refine XS.iconst X13.here hx rfl (hb hby at_116) ?_
    show Steps p.tables e below (T13.setTop (mkF m 117 #[.val (.long ux), .second, .val (.long uy), .second, .val (.long ue), .second, .val (.long uf), .second, .val (.ref oa), .val (.ref ob), .val (.int (f3_8 ux uy)), .val (.int (f3_8 uy ux)), .val (.int (f3_8 ux ux)), .val (.int (g_ab ux uy)), .val (.int (g_ba ux uy))] [(.int (1 : Int32))])) _
    refine XS.goto X13.here hx rfl (pc0 := 117) (pc' := 121) rfl (hb hby at_117) (by decide) (by decide) ?_
    show Steps p.tables e below (T13.setTop (mkF m 121 #[.val (.long ux), .second, .val (.long uy), .second, .val (.long ue), .second, .val (.long uf), .second, .val (.ref oa), .val (.ref ob), .val (.int (f3_8 ux uy)), .val (.int (f3_8 uy ux)), .val (.int (f3_8 ux ux)), .val (.int (g_ab ux uy)), .val (.int (g_ba ux uy))] [(.int (1 : Int32))])) _
    exact retN X13 hx (t := .boolean) Bd.returns (by simp) (hb hby at_121) hr
  · show Q0a Z ux uy ue uf h0 n0 _ T13.heap _
    rw [e13q]
    exact ⟨rfl, N13⟩
theorem rm0 (l : Launch) (Z : State) (a0 : Array Value) (hw : ∀ d ∈ tables_1, d.before a0 Z = true) (ws : List Jvm.Cond) (ux : Int64) (uy : Int64) (ue : Int64) (uf : Int64) (h0 : Heap) (n0 : Nat) (Z0 : n0 ≤ h0.size) :
    MetFree l x (head1 (Jvm.Cond.code x code maxLocals ret :: ws) room_1) (fun a U => a = #[(.long ux), (.long uy), (.long ue), (.long uf)] ∧ Z.Warmed39 U.vm ∧ U.heap = h0) (fun _ _ _ _ _ => True) (fun _ U o U' => ∃ v L, o = .returned v ∧ Q0a Z ux uy ue uf h0 n0 v U'.heap L ∧ FrameEnd U o U' L 2 4) := by
  by_cases h : ux = uy
  · exact rm0a l Z a0 hw ws ux uy ue uf h0 n0 Z0 h
  · exact rm0b l Z a0 hw ws ux uy ue uf h0 n0 Z0 h
set_option maxRecDepth 65536 in
set_option maxHeartbeats 40000000 in
theorem comes_1 {Post : Tables → Env → Array Value → State → Outcome → State → Prop} (hpost : ∀ tb e args s v u, (limb_1_1.after args s (.returned v) u = true ∧ limb_1_2.after args s (.returned v) u = true ∧ True) → FrameEnd s (.returned v) u (Jvm.fieldLocs frame_1_writes args s ++ Jvm.arrayLocs frame_1_arrays args s ++ Jvm.staticLocs frame_1_statics s) 16 128 → Post tb e args s (.returned v) u) :
    ArmFor flags0 classFile x code maxLocals ret World_1 tables_1 room_1 Calls_1 rest_1 Pre_1 Post := by
  intro l hfl _ _ p e ha hc hk s m args below hf hA hF happ hP
  obtain ⟨hcalls, hrest, hpre⟩ := hP
  obtain ⟨-, -, -, hnamed, -, -, -, hat⟩ := (Spec.applies_iff hf).mp happ
  obtain ⟨hg, hn⟩ := and_e (Cond.before_iff.mp (show (Jvm.Cond.and given_1 narrow_1).before args s = true from hpre))
  obtain ⟨h1, r0⟩ := and_e hg
  obtain ⟨g0, r1⟩ := and_e r0
  obtain ⟨g1, r2⟩ := and_e r1
  obtain ⟨g2, r3⟩ := and_e r2
  obtain ⟨w0, w1, w2, w3, rfl⟩ : ∃ w0 w1 w2 w3 : Value, args = #[w0, w1, w2, w3] := by
    have hs : args.size = 4 := by simpa [Cond.value, given_1] using h1
    obtain ⟨L⟩ := args
    match L, hs with
    | [w0, w1, w2, w3], _ => exact ⟨w0, w1, w2, w3, rfl⟩
  have hw := fun d (hd : d ∈ tables_1) => atoms_spec (ws := Jvm.Cond.code x code maxLocals ret :: tables_1) hat d (List.mem_cons_of_mem _ hd)
  obtain ⟨i0, ei0⟩ := isL_v g0
  obtain rfl : w0 = (.long i0) := Option.some.inj ei0
  obtain ⟨i1, ei1⟩ := isL_v g1
  obtain rfl : w1 = (.long i1) := Option.some.inj ei1
  obtain ⟨i2, ei2⟩ := isL_v g2
  obtain rfl : w2 = (.long i2) := Option.some.inj ei2
  obtain ⟨i3, ei3⟩ := isL_v r3
  obtain rfl : w3 = (.long i3) := Option.some.inj ei3
  obtain ⟨n, o, h1, h2, h3, _, L, rfl, ⟨rfl, N⟩, hq⟩ := rm0 l s _ hw tables_1 i0 i1 i2 i3 s.heap s.heap.size (Nat.le_refl _) p e ha hc hk s m _ below hf ((Spec.applies_iff_loose hf).mp happ).1 ⟨rfl, State.Warmed39.refl s, rfl⟩ trivial
  refine ⟨n, _, h1, h2, h3, hpost _ _ _ _ _ _ ⟨Cond.after_iff.mpr rfl, Cond.after_iff.mpr (eq_i res_at (Term.int_eval (1)) rfl), trivial⟩ ⟨hq.1, hq.2.1, (hq.2.2.sift fun y hy => Or.inr (N y hy)).mono (by decide) (by decide)⟩⟩
theorem main_1_1 : Claimed_1_1 := comes_1 fun _ _ _ _ _ _ h hF => ⟨h.1, hF⟩
theorem main_1_2 : Claimed_1_2 := comes_1 fun _ _ _ _ _ _ h hF => ⟨h.2.1, hF⟩
end Jvm.Pilot.@@N@@
namespace Jvm.Pilot.@@N@@
open Jvm Jvm.ClassFile Sem Op Lib Jvm.Free Jvm.Stand Jvm.Pilot.@@N@@.Jvm.D
/-! MADE BY PROGRAM (witnessworld.py) out of the Statement's table words and the real class files: 11 classes; the members and pool entries that the words name. The judged class is class 1, her method 1. -/
namespace start1
open Jvm.ClassFile
def u (s : String) : CpInfo := .utf8 (stringToUtf16 s)
/-- a pool by its gaps: so many unusable entries, then the entry; so many at the end -/
def gap : Nat → List CpInfo → List CpInfo
  | 0, r => r
  | n + 1, r => .unusable :: gap n r
def poolList (es : List (Nat × CpInfo)) (last : Nat) : List CpInfo := es.foldr (fun e r => gap e.1 (e.2 :: r)) (gap last [])
def pool (es : List (Nat × CpInfo)) (last : Nat) : Array CpInfo := ⟨poolList es last⟩
def fileOf (pool : Array CpInfo) (this : Nat) (attrs : Array Attribute := #[]) (ms : Array MethodInfo := #[]) (fl : Nat := 33) (sup : Nat := 0) (ifs : Array Nat := #[]) (fds : Array FieldInfo := #[]) : ClassFile where
  minorVersion := 0
  majorVersion := 65
  constantPool := pool
  accessFlags := fl
  thisClass := this
  superClass := sup
  interfaces := ifs
  fields := fds
  methods := ms
  attributes := attrs
def plain (name : String) (sup : Option ClassId) : Class where
  name := name
  kind := .ordinary
  loader := none
  accessFlags := 33
  super := sup
  interfaces := #[]
  cf := none
  fields := #[]
  methods := #[]
  instanceTypes := #[]
  staticTypes := #[]
  resolved := #[]
  callSites := []
  init := .initialized
  statics := none
  mirror := none

def pool0 : Array CpInfo := pool [(5, u "<init>"), (0, u "()V"), (1, .class_ 10), (1, u "java/lang/Object")] 113

def k0c0 : Code := { maxStack := 0, maxLocals := 1, code := object_method_1_code, exceptionTable := #[], attributes := #[] }
def k0m0 : Method := { name := "<init>", desc := "()V", sig := { parameters := [], returnType := none }, accessFlags := 1, code := some k0c0 }
/-- java/lang/Object -/
def k0 : Class := { plain "java/lang/Object" none with
  accessFlags := 33
  interfaces := #[]
  cf := some (fileOf pool0 8 #[] #[{ accessFlags := 1, nameIndex := 5, descriptorIndex := 6, attributes := #[] }] 33 0 #[] #[])
  fields := #[]
  methods := #[k0m0]
  instanceTypes := #[]
  staticTypes := #[]
  resolved := Array.replicate 124 none
  statics := none }

def pool1 : Array CpInfo := pool [(2, .class_ 4), (1, u "java/lang/Object"), (0, u "<init>"), (0, u "()V"), (0, .class_ 8), (0, u "com/example/gembok/gembok/Moment"), (0, .methodref 7 10), (0, .nameAndType 5 11), (0, u "(JJ)V"), (0, .methodref 7 13), (0, .nameAndType 14 15), (0, u "isAfter"), (0, u "(Lcom/example/gembok/gembok/Moment;)Z"), (0, .methodref 17 18), (0, .class_ 19), (0, .nameAndType 20 21), (0, u "java/lang/Math"), (0, u "max"), (0, u "(JJ)J"), (0, .class_ 23), (0, u "com/example/gembok/gembok/MomentIsAfterPinLaw"), (2, u "law"), (0, u "(JJJJ)Z")] 3

def k1m0 : Method := { name := "<init>", desc := "()V", sig := { parameters := [], returnType := none }, accessFlags := 1, code := none }
def k1c1 : Code := { maxStack := 6, maxLocals := 15, code := code, exceptionTable := #[], attributes := #[] }
def k1m1 : Method := { name := "law", desc := "(JJJJ)Z", sig := { parameters := [.long, .long, .long, .long], returnType := some .boolean }, accessFlags := 9, code := some k1c1 }
/-- com/example/gembok/gembok/MomentIsAfterPinLaw -/
def k1 : Class := { plain "com/example/gembok/gembok/MomentIsAfterPinLaw" (some 0) with
  accessFlags := 49
  interfaces := #[]
  cf := some (fileOf pool1 22 #[] #[{ accessFlags := 1, nameIndex := 5, descriptorIndex := 6, attributes := #[] }, { accessFlags := 9, nameIndex := 26, descriptorIndex := 27, attributes := #[] }] 49 2 #[] #[])
  fields := #[]
  methods := #[k1m0, k1m1]
  instanceTypes := #[]
  staticTypes := #[]
  resolved := Array.replicate 31 none
  statics := none }

def pool2 : Array CpInfo := pool [(1, .methodref 2 3), (0, .class_ 4), (0, .nameAndType 5 6), (0, u "java/lang/Object"), (0, u "<init>"), (0, u "()V"), (0, .class_ 8), (0, u "java/lang/Record")] 13

def k2c0 : Code := { maxStack := 1, maxLocals := 1, code := jdk_30_method_1_code, exceptionTable := #[], attributes := #[] }
def k2m0 : Method := { name := "<init>", desc := "()V", sig := { parameters := [], returnType := none }, accessFlags := 4, code := some k2c0 }
/-- java/lang/Record -/
def k2 : Class := { plain "java/lang/Record" (some 0) with
  accessFlags := 1057
  interfaces := #[]
  cf := some (fileOf pool2 7 #[] #[{ accessFlags := 4, nameIndex := 5, descriptorIndex := 6, attributes := #[] }] 1057 2 #[] #[])
  fields := #[]
  methods := #[k2m0]
  instanceTypes := #[]
  staticTypes := #[]
  resolved := Array.replicate 22 none
  statics := none }

def pool3 : Array CpInfo := pool [(1, .methodref 2 3), (0, .class_ 4), (0, .nameAndType 5 6), (0, u "java/lang/Record"), (0, u "<init>"), (0, u "()V"), (0, .fieldref 8 9), (0, .class_ 10), (0, .nameAndType 11 12), (0, u "com/example/gembok/gembok/Moment"), (0, u "monotonicNanos"), (0, u "J"), (0, .fieldref 8 14), (0, .nameAndType 15 12), (0, u "epochMs"), (13, u "(JJ)V"), (24, u "NANOS_PER_MS"), (6, u "isAfter"), (0, u "(Lcom/example/gembok/gembok/Moment;)Z")] 32

def k3c0 : Code := { maxStack := 3, maxLocals := 5, code := prog_27_method_1_code, exceptionTable := #[], attributes := #[] }
def k3m0 : Method := { name := "<init>", desc := "(JJ)V", sig := { parameters := [.long, .long], returnType := none }, accessFlags := 0, code := some k3c0 }
def k3c1 : Code := { maxStack := 4, maxLocals := 2, code := prog_27_method_3_code, exceptionTable := #[], attributes := #[] }
def k3m1 : Method := { name := "isAfter", desc := "(Lcom/example/gembok/gembok/Moment;)Z", sig := { parameters := [(.object "com/example/gembok/gembok/Moment")], returnType := some .boolean }, accessFlags := 0, code := some k3c1 }
/-- com/example/gembok/gembok/Moment -/
def k3 : Class := { plain "com/example/gembok/gembok/Moment" (some 2) with
  accessFlags := 48
  interfaces := #[]
  cf := some (fileOf pool3 8 #[] #[{ accessFlags := 0, nameIndex := 5, descriptorIndex := 29, attributes := #[] }, { accessFlags := 0, nameIndex := 61, descriptorIndex := 62, attributes := #[] }] 48 2 #[] #[{ accessFlags := 18, nameIndex := 11, descriptorIndex := 12, attributes := #[] }, { accessFlags := 18, nameIndex := 15, descriptorIndex := 12, attributes := #[] }, { accessFlags := 26, nameIndex := 54, descriptorIndex := 12, attributes := #[] }])
  fields := #[{ name := "monotonicNanos", type := .long, accessFlags := 18, slot := 0, constantValue := 0 }, { name := "epochMs", type := .long, accessFlags := 18, slot := 1, constantValue := 0 }, { name := "NANOS_PER_MS", type := .long, accessFlags := 26, slot := 0, constantValue := 0 }]
  methods := #[k3m0, k3m1]
  instanceTypes := #[.long, .long]
  staticTypes := #[.long]
  resolved := Array.replicate 95 none
  statics := none }

def pool4 : Array CpInfo := pool [(1, .class_ 2), (0, u "java/lang/Math"), (1, .class_ 6), (1, u "java/lang/Object"), (0, u "<init>"), (0, u "()V"), (89, .class_ 100), (1, u "java/lang/Math$RandomNumberGeneratorHolder"), (20, u "(JJ)J"), (50, u "negativeZeroFloatBits"), (0, u "J"), (2, u "negativeZeroDoubleBits"), (21, u "max"), (46, u "$assertionsDisabled"), (0, u "Z"), (91, u "twoToTheDoubleScaleDown"), (0, u "D"), (4, u "twoToTheDoubleScaleUp"), (9, u "E"), (3, u "PI"), (2, u "TAU"), (2, u "DEGREES_TO_RADIANS"), (0, u "RADIANS_TO_DEGREES")] 94

def k4m0 : Method := { name := "<init>", desc := "()V", sig := { parameters := [], returnType := none }, accessFlags := 2, code := none }
def k4c1 : Code := { maxStack := 4, maxLocals := 4, code := jdk_29_method_66_code, exceptionTable := #[], attributes := #[] }
def k4m1 : Method := { name := "max", desc := "(JJ)J", sig := { parameters := [.long, .long], returnType := some .long }, accessFlags := 9, code := some k4c1 }
/-- java/lang/Math -/
def k4 : Class := { plain "java/lang/Math" (some 0) with
  accessFlags := 49
  interfaces := #[]
  cf := some (fileOf pool4 1 #[.nestMembers #[98]] #[{ accessFlags := 2, nameIndex := 7, descriptorIndex := 8, attributes := #[] }, { accessFlags := 9, nameIndex := 198, descriptorIndex := 121, attributes := #[] }] 49 4 #[] #[{ accessFlags := 25, nameIndex := 354, descriptorIndex := 339, attributes := #[] }, { accessFlags := 25, nameIndex := 358, descriptorIndex := 339, attributes := #[] }, { accessFlags := 25, nameIndex := 361, descriptorIndex := 339, attributes := #[] }, { accessFlags := 26, nameIndex := 364, descriptorIndex := 339, attributes := #[] }, { accessFlags := 26, nameIndex := 365, descriptorIndex := 339, attributes := #[] }, { accessFlags := 26, nameIndex := 172, descriptorIndex := 173, attributes := #[] }, { accessFlags := 26, nameIndex := 176, descriptorIndex := 173, attributes := #[] }, { accessFlags := 8, nameIndex := 344, descriptorIndex := 339, attributes := #[] }, { accessFlags := 8, nameIndex := 338, descriptorIndex := 339, attributes := #[] }, { accessFlags := 4120, nameIndex := 245, descriptorIndex := 246, attributes := #[] }])
  fields := #[{ name := "E", type := .double, accessFlags := 25, slot := 0, constantValue := 0 }, { name := "PI", type := .double, accessFlags := 25, slot := 1, constantValue := 0 }, { name := "TAU", type := .double, accessFlags := 25, slot := 2, constantValue := 0 }, { name := "DEGREES_TO_RADIANS", type := .double, accessFlags := 26, slot := 3, constantValue := 0 }, { name := "RADIANS_TO_DEGREES", type := .double, accessFlags := 26, slot := 4, constantValue := 0 }, { name := "negativeZeroFloatBits", type := .long, accessFlags := 26, slot := 5, constantValue := 0 }, { name := "negativeZeroDoubleBits", type := .long, accessFlags := 26, slot := 6, constantValue := 0 }, { name := "twoToTheDoubleScaleUp", type := .double, accessFlags := 8, slot := 7, constantValue := 0 }, { name := "twoToTheDoubleScaleDown", type := .double, accessFlags := 8, slot := 8, constantValue := 0 }, { name := "$assertionsDisabled", type := .boolean, accessFlags := 4120, slot := 9, constantValue := 0 }]
  methods := #[k4m0, k4m1]
  instanceTypes := #[]
  staticTypes := #[.double, .double, .double, .double, .double, .long, .long, .double, .double, .boolean]
  resolved := Array.replicate 460 none
  statics := none }

def pool5 : Array CpInfo := pool [(1, u "java/lang/Cloneable"), (0, .class_ 1), (0, u "java/lang/Object"), (0, .class_ 3)] 3

/-- java/lang/Cloneable -/
def k5 : Class := { plain "java/lang/Cloneable" (some 0) with
  accessFlags := 1537
  interfaces := #[]
  cf := some (fileOf pool5 2 #[] #[] 1537 4 #[] #[])
  fields := #[]
  methods := #[]
  instanceTypes := #[]
  staticTypes := #[]
  resolved := Array.replicate 8 none
  statics := none }

def pool6 : Array CpInfo := pool [(1, u "java/io/Serializable"), (0, .class_ 1), (0, u "java/lang/Object"), (0, .class_ 3)] 3

/-- java/io/Serializable -/
def k6 : Class := { plain "java/io/Serializable" (some 0) with
  accessFlags := 1537
  interfaces := #[]
  cf := some (fileOf pool6 2 #[] #[] 1537 4 #[] #[])
  fields := #[]
  methods := #[]
  instanceTypes := #[]
  staticTypes := #[]
  resolved := Array.replicate 8 none
  statics := none }

/-- the primitive byte -/
def k7 : Class := { plain "byte" none with kind := .primitive 'B', accessFlags := 0x411 }
/-- [B -/
def k8 : Class := { plain "[B" (some 0) with kind := .array 7 .byte, interfaces := #[5, 6], accessFlags := 1041 }

/-- the primitive int -/
def k9 : Class := { plain "int" none with kind := .primitive 'I', accessFlags := 0x411 }
/-- [I -/
def k10 : Class := { plain "[I" (some 0) with kind := .array 9 .int, interfaces := #[5, 6], accessFlags := 1041 }

def heap : Heap := #[]
def classes : Array Class := #[k0, k1, k2, k3, k4, k5, k6, k7, k8, k9, k10]
def interned : List (Array UInt16 × Addr) := []
def slotsUsed : Nat := 0
def theMethod : MethodId := ⟨1, 1⟩
def args0 : Array Value := #[.long 5, .long 7, .long 1, .long 2]
def aboutOver (below : List Frame) : State where
  vm := { classes := classes, interned := interned.toArray }
  heap := heap
  slotsUsed := slotsUsed
  threads := #[{ frames := .invoking theMethod args0 :: below }]
def below0 : List Frame := [.native { method := ⟨0, 0⟩, args := #[] }]
def about1 : State := aboutOver below0
def p0 : Program := .bare "" "" ""
def e0 : Env := launch0.env 0 0 0
theorem w_frames : about1.frames = Frame.invoking theMethod args0 :: below0 := rfl
set_option maxRecDepth 65536 in
theorem w_args : argsFit about1.vm theMethod args0 = true := by decide +kernel
set_option maxRecDepth 65536 in
theorem w_heap : heapFits about1 = true := by decide +kernel
set_option maxRecDepth 65536 in
theorem w_runnable : about1.curStatus? = some .runnable := by decide +kernel
set_option maxRecDepth 65536 in
theorem w_alone : about1.alone = true := by decide +kernel
set_option maxRecDepth 65536 in
theorem w_named : about1.methodNamed? x = some theMethod := by decide +kernel
set_option maxRecDepth 65536 in
theorem w_hears : about1.hears theMethod below0 = true := by decide +kernel
set_option maxRecDepth 65536 in
theorem w_ripe : about1.ripe theMethod args0 below0 = true := by decide +kernel
theorem w_running : about1.status = .running := rfl
set_option maxRecDepth 65536 in
theorem w_room : about1.hasRoom e0.platform room_1 = true :=
  launch0.hasRoom_least _ room_1 (by decide +kernel) (by decide +kernel) (by decide +kernel) (by decide +kernel) (by decide +kernel) (by decide +kernel)
theorem allAtoms_all (ts : List Jvm.Cond) (a : Array Jvm.Value) (st : Jvm.State) : (allAtoms ts).before a st = ts.all (fun c => c.before a st) := by
  induction ts with
  | nil => rfl
  | cons c t ih =>
    show (Jvm.Cond.and c (allAtoms t)).before a st = _
    rw [Jvm.Cond.before_and, ih, List.all_cons]
def words1 : List Jvm.Cond := Jvm.Cond.code x code maxLocals ret :: tables_1
/-- a 'code' word, met by the world's own term for the bytes: nothing is compared byte by byte -/
theorem code_word {y : MethodName} {bytes : ByteArray} {mx : Nat} {rt : Option FieldType} {a : Array Value} {s : State} {m : MethodId} {meth : Method} {c : Code} (h1 : s.methodNamed? y = some m) (h2 : s.vm.method? m = some meth) (h3 : meth.code = some c) (h4 : c.code = bytes)
    (h5 : (c.maxLocals == mx && c.exceptionTable.isEmpty && decide (c.maxStack ≤ mostOperands) && decide (meth.sig.returnType = rt) && !meth.locks && decide (parseMethodDescriptor y.desc = some meth.sig)) = true) : (Jvm.Cond.code y bytes mx rt).before a s = true := by
  simp only [Bool.and_eq_true, beq_iff_eq, Bool.not_eq_true', decide_eq_true_eq] at h5
  obtain ⟨⟨⟨⟨⟨g1, g2⟩, g3⟩, g4⟩, g5⟩, g6⟩ := h5
  simp [Cond.before, Cond.holds, Cond.value, h1, h2, h3, h4, g1, g2, g3, g4, g5, g6]
def isCode : Jvm.Cond → Bool
  | .code _ _ _ _ => true
  | _ => false
theorem all_split {L : List Jvm.Cond} {P : Jvm.Cond → Bool} (h1 : L.all (fun c => isCode c || P c) = true) (h2 : ∀ c ∈ L.filter isCode, P c = true) : L.all P = true := by
  refine List.all_eq_true.mpr fun c hc => ?_
  have h := List.all_eq_true.mp h1 c hc
  rcases Bool.eq_false_or_eq_true (isCode c) with hi | hi
  · exact h2 c (List.mem_filter.mpr ⟨hc, hi⟩)
  · simpa [hi] using h
set_option maxRecDepth 65536 in
theorem w_c0 : (Jvm.Cond.code x code maxLocals ret).before args0 about1 = true := code_word (m := ⟨1, 1⟩) (meth := k1m1) (c := k1c1) (by decide +kernel) rfl rfl rfl (by decide +kernel)
set_option maxRecDepth 65536 in
theorem w_c1 : (Jvm.Cond.code ({ cls := "com/example/gembok/gembok/Moment", name := "<init>", desc := "(JJ)V" } : Jvm.MethodName) prog_27_method_1_code (5 : Nat) (Option.none : Option Jvm.ClassFile.FieldType)).before args0 about1 = true := code_word (m := ⟨3, 0⟩) (meth := k3m0) (c := k3c0) (by decide +kernel) rfl rfl rfl (by decide +kernel)
set_option maxRecDepth 65536 in
theorem w_c2 : (Jvm.Cond.code ({ cls := "java/lang/Record", name := "<init>", desc := "()V" } : Jvm.MethodName) jdk_30_method_1_code (1 : Nat) (Option.none : Option Jvm.ClassFile.FieldType)).before args0 about1 = true := code_word (m := ⟨2, 0⟩) (meth := k2m0) (c := k2c0) (by decide +kernel) rfl rfl rfl (by decide +kernel)
set_option maxRecDepth 65536 in
theorem w_c3 : (Jvm.Cond.code ({ cls := "java/lang/Object", name := "<init>", desc := "()V" } : Jvm.MethodName) object_method_1_code (1 : Nat) (Option.none : Option Jvm.ClassFile.FieldType)).before args0 about1 = true := code_word (m := ⟨0, 0⟩) (meth := k0m0) (c := k0c0) (by decide +kernel) rfl rfl rfl (by decide +kernel)
set_option maxRecDepth 65536 in
theorem w_c4 : (Jvm.Cond.code ({ cls := "com/example/gembok/gembok/Moment", name := "isAfter", desc := "(Lcom/example/gembok/gembok/Moment;)Z" } : Jvm.MethodName) prog_27_method_3_code (2 : Nat) (Option.some Jvm.ClassFile.FieldType.boolean)).before args0 about1 = true := code_word (m := ⟨3, 1⟩) (meth := k3m1) (c := k3c1) (by decide +kernel) rfl rfl rfl (by decide +kernel)
set_option maxRecDepth 65536 in
theorem w_c5 : (Jvm.Cond.code ({ cls := "java/lang/Math", name := "max", desc := "(JJ)J" } : Jvm.MethodName) jdk_29_method_66_code (4 : Nat) (Option.some Jvm.ClassFile.FieldType.long)).before args0 about1 = true := code_word (m := ⟨4, 1⟩) (meth := k4m1) (c := k4c1) (by decide +kernel) rfl rfl rfl (by decide +kernel)
def codes1 : List Jvm.Cond := [Jvm.Cond.code x code maxLocals ret, Jvm.Cond.code ({ cls := "com/example/gembok/gembok/Moment", name := "<init>", desc := "(JJ)V" } : Jvm.MethodName) prog_27_method_1_code (5 : Nat) (Option.none : Option Jvm.ClassFile.FieldType), Jvm.Cond.code ({ cls := "java/lang/Record", name := "<init>", desc := "()V" } : Jvm.MethodName) jdk_30_method_1_code (1 : Nat) (Option.none : Option Jvm.ClassFile.FieldType), Jvm.Cond.code ({ cls := "java/lang/Object", name := "<init>", desc := "()V" } : Jvm.MethodName) object_method_1_code (1 : Nat) (Option.none : Option Jvm.ClassFile.FieldType), Jvm.Cond.code ({ cls := "com/example/gembok/gembok/Moment", name := "isAfter", desc := "(Lcom/example/gembok/gembok/Moment;)Z" } : Jvm.MethodName) prog_27_method_3_code (2 : Nat) (Option.some Jvm.ClassFile.FieldType.boolean), Jvm.Cond.code ({ cls := "java/lang/Math", name := "max", desc := "(JJ)J" } : Jvm.MethodName) jdk_29_method_66_code (4 : Nat) (Option.some Jvm.ClassFile.FieldType.long)]
set_option maxRecDepth 65536 in
theorem codes_eq : words1.filter isCode = codes1 := rfl
theorem w_codes : ∀ c ∈ words1.filter isCode, c.before args0 about1 = true := by
  rw [codes_eq]
  intro c hc
  simp only [codes1, List.mem_cons, List.not_mem_nil, or_false] at hc
  rcases hc with rfl | rfl | rfl | rfl | rfl | rfl
  · exact w_c0
  · exact w_c1
  · exact w_c2
  · exact w_c3
  · exact w_c4
  · exact w_c5
set_option maxRecDepth 65536 in
theorem w_t1 : (words1.take 24).all (fun c => isCode c || c.before args0 about1) = true := by decide +kernel
set_option maxRecDepth 65536 in
theorem w_t2 : (words1.drop 24).all (fun c => isCode c || c.before args0 about1) = true := by decide +kernel
theorem w_tables : (allAtoms (Jvm.Cond.code x code maxLocals ret :: tables_1)).before args0 about1 = true := by
  rw [allAtoms_all]
  show words1.all (fun c => c.before args0 about1) = true
  refine all_split ?_ w_codes
  rw [← List.take_append_drop 24 words1, List.all_append, w_t1, w_t2]
  rfl
set_option maxRecDepth 65536 in
theorem w_case : (Jvm.Cond.and given_1 narrow_1).before args0 about1 = true := by decide +kernel
theorem w_applies : (headSpec (Jvm.Cond.code x code maxLocals ret :: tables_1) room_1).applies x e0.platform about1 = true :=
  (Spec.applies_iff w_frames).mpr ⟨w_running, w_runnable, w_alone, w_named, w_hears, w_ripe, w_room, w_tables⟩
theorem atStart : AtStart classFile x code maxLocals ret World_1 tables_1 room_1 Calls_1 rest_1 Pre_1 launch0 p0 e0 about1 theMethod args0 below0 :=
  ⟨lists_1, trivial, launch0.admits_env _ _ _, launch0.least_env, fairChoices_fair.cas, fairChoices_fair.clock, w_frames, w_args, w_heap, w_applies, trivial, trivial, w_case⟩
end start1
theorem witness_1 : WitnessClaimed_1 := ⟨start1.p0, start1.e0, start1.about1, start1.theMethod, start1.args0, start1.below0, start1.atStart⟩
end Jvm.Pilot.@@N@@
